/-
  The reference's dataRight at an Int, walked.
-/
import Derived.Test.YtdcfbgpcpjjjaaaGreatCe
import Derived.Deep.RegionHeld3
namespace Go.Proofs.YtdcfbgpcpjjjaaaGreat.Co
open Go.RowKit Go.Proofs.YtdcfbgpcpjjjaaaGreatW.PrintWords Go.Proofs.YtdcfbgpcpjjjaaaGreatW.PrintLast Go.Proofs.YtdcfbgpcpjjjaaaGreatW.PrintMore
open Go.Proofs.YtdcfbgpcpjjjaaaGreat.Fl Go.Proofs.YtdcfbgpcpjjjaaaGreat.Dr Go.Proofs.YtdcfbgpcpjjjaaaGreat.PFnFieldValueOf
set_option linter.unusedVariables false
set_option linter.unusedSimpArgs false
attribute [local go_sem] run_store_float undef
theorem trunc_n (x : Nat) (hb : (D.read x).isNaN = false) (w : World) : Calls Tryz.prog 19 #[.float .f64 x] w fun e w' => ∃ k, e = .returned (.float .f64 (cutW x)) ∧ w' = w.drewN k := by
  refine (trunc_any x w).mono ?_
  rintro e w' ⟨⟨y, rfl, hy⟩, k, rfl⟩
  rw [hy.2 hb]
  exact ⟨k, rfl, rfl⟩
theorem nan_order {x : Nat} (h : (D.read x).isNaN = true) (y : Nat) : (FloatKind.f64.format.order x y == some Ordering.eq) = false := by
  show (D.order x y == some .eq) = false
  unfold Ieee.Format.order
  cases hd : D.read x with
  | nan s t => rfl
  | infinity s => rw [hd] at h; cases h
  | number s m i => rw [hd] at h; cases h
set_option maxHeartbeats 8000000 in
set_option maxRecDepth 100000 in
theorem leaf4_nan (v : List V4) (a1 : Addr) (c : Nat) (errs : Bool) (d : Nat) (w : World) (xn : Nat) (xt : ByteArray) (h : At0 v w a1 d ⟨4, xn, xt, v.length⟩) (hc : v.length ≤ c) (hx : xn < 2 ^ 64) (te : xt.toList.isEmpty = true) (hl : (v.length : Int) = 1) (hN : (D.read xn).isNaN = true) :
    Calls Tryz.prog 12 #[.slice (some a1) v.length c, .bool errs, .int .i64 ((d : Int) - 1)] w fun e w' => e = .returned (.bool (intN xn)) ∧ Below w.heap.size w w' := by
  obtain ⟨p0, p1, p2, p3, hlt, d2⟩ := h
  dsimp only at p0 p1 p2 p3
  have hi : intN xn = false := by unfold intN; rw [show wholeN xn = false from nan_order hN _]; rfl
  have hny := nan_order hN
  rw [hi]
  clear hi
  go_enter Tryz.func12, Tryz.ntmps12
  go_wp2_with fail
  have hb0 : Below w.heap.size w (w.alloc (.cells #[.int .i64 4, .float .f64 xn, .string xt, .int .i64 1] 27)) := below_one _ _
  have hc0 : (w.alloc (.cells #[.int .i64 4, .float .f64 xn, .string xt, .int .i64 1] 27)).cell? ⟨w.heap.size, 1, none⟩ = some (.float .f64 xn) := (blk_cell (blk_new w _) 1).trans rfl
  generalize w.alloc (.cells #[.int .i64 4, .float .f64 xn, .string xt, .int .i64 1] 27) = W0 at *
  first
    | (go_region_with (go_at_call 19; refine (trunc_any xn _).mono ?_; rintro e w1 ⟨⟨y, rfl, hy⟩, k1, rfl⟩))
    | fail
  all_goals
    go_wp2_with fail
    go_ret
    exact ⟨rfl, by repeat (first | exact hb0 | apply pw_below_drewN | apply below_drew)⟩
set_option maxHeartbeats 8000000 in
set_option maxRecDepth 100000 in
theorem leaf4_frac (v : List V4) (a1 : Addr) (c : Nat) (errs : Bool) (d : Nat) (w : World) (xn : Nat) (xt : ByteArray) (h : At0 v w a1 d ⟨4, xn, xt, v.length⟩) (hc : v.length ≤ c) (hx : xn < 2 ^ 64) (te : xt.toList.isEmpty = true) (hl : (v.length : Int) = 1) (hN : (D.read xn).isNaN = false) (hW : wholeN xn = false) :
    Calls Tryz.prog 12 #[.slice (some a1) v.length c, .bool errs, .int .i64 ((d : Int) - 1)] w fun e w' => e = .returned (.bool (intN xn)) ∧ Below w.heap.size w w' := by
  obtain ⟨p0, p1, p2, p3, hlt, d2⟩ := h
  dsimp only at p0 p1 p2 p3
  have hw1 : (FloatKind.f64.format.order xn (cutW xn) == some Ordering.eq) = false := hW
  have hi : intN xn = false := by unfold intN; rw [hW]; rfl
  rw [hi]
  clear hi
  go_enter Tryz.func12, Tryz.ntmps12
  go_wp2_with fail
  have hb0 : Below w.heap.size w (w.alloc (.cells #[.int .i64 4, .float .f64 xn, .string xt, .int .i64 1] 27)) := below_one _ _
  have hc0 : (w.alloc (.cells #[.int .i64 4, .float .f64 xn, .string xt, .int .i64 1] 27)).cell? ⟨w.heap.size, 1, none⟩ = some (.float .f64 xn) := (blk_cell (blk_new w _) 1).trans rfl
  generalize w.alloc (.cells #[.int .i64 4, .float .f64 xn, .string xt, .int .i64 1] 27) = W0 at *
  first
    | (go_region_with (go_at_call 19; refine (trunc_n xn hN _).mono ?_; rintro e w1 ⟨k1, rfl, rfl⟩))
    | fail
  all_goals
    go_wp2_with fail
    go_ret
    exact ⟨rfl, by repeat (first | exact hb0 | apply pw_below_drewN | apply below_drew)⟩
set_option maxHeartbeats 8000000 in
set_option maxRecDepth 100000 in
theorem leaf4_big (v : List V4) (a1 : Addr) (c : Nat) (errs : Bool) (d : Nat) (w : World) (xn : Nat) (xt : ByteArray) (h : At0 v w a1 d ⟨4, xn, xt, v.length⟩) (hc : v.length ≤ c) (hx : xn < 2 ^ 64) (te : xt.toList.isEmpty = true) (hl : (v.length : Int) = 1) (hN : (D.read xn).isNaN = false) (hW : wholeN xn = true) (hB : belowN xn = false) :
    Calls Tryz.prog 12 #[.slice (some a1) v.length c, .bool errs, .int .i64 ((d : Int) - 1)] w fun e w' => e = .returned (.bool (intN xn)) ∧ Below w.heap.size w w' := by
  obtain ⟨p0, p1, p2, p3, hlt, d2⟩ := h
  dsimp only at p0 p1 p2 p3
  have hw1 : (FloatKind.f64.format.order xn (cutW xn) == some Ordering.eq) = true := hW
  have hB1 : (FloatKind.f64.format.order (xn % 9223372036854775808) 4845873199050653696 == some Ordering.lt) = false := hB
  have hi : intN xn = false := by unfold intN; rw [hW, hB]; rfl
  rw [hi]
  clear hi
  go_enter Tryz.func12, Tryz.ntmps12
  go_wp2_with fail
  have hb0 : Below w.heap.size w (w.alloc (.cells #[.int .i64 4, .float .f64 xn, .string xt, .int .i64 1] 27)) := below_one _ _
  have hc0 : (w.alloc (.cells #[.int .i64 4, .float .f64 xn, .string xt, .int .i64 1] 27)).cell? ⟨w.heap.size, 1, none⟩ = some (.float .f64 xn) := (blk_cell (blk_new w _) 1).trans rfl
  generalize w.alloc (.cells #[.int .i64 4, .float .f64 xn, .string xt, .int .i64 1] 27) = W0 at *
  first
    | (go_region_with (first | (go_at_call 19; refine (trunc_n xn hN _).mono ?_; rintro e w1 ⟨k1, rfl, rfl⟩) | (go_at_call 20; refine (abs_any xn hx _).mono ?_; rintro e w1 ⟨rfl, rfl⟩)))
    | fail
  all_goals
    go_wp2_with fail
    go_ret
    exact ⟨rfl, by repeat (first | exact hb0 | apply pw_below_drewN | apply below_drew)⟩
set_option maxHeartbeats 8000000 in
set_option maxRecDepth 100000 in
theorem leaf4_num (v : List V4) (a1 : Addr) (c : Nat) (errs : Bool) (d : Nat) (w : World) (xn : Nat) (xt : ByteArray) (h : At0 v w a1 d ⟨4, xn, xt, v.length⟩) (hc : v.length ≤ c) (hx : xn < 2 ^ 64) (te : xt.toList.isEmpty = true) (hl : (v.length : Int) = 1) (hN : (D.read xn).isNaN = false) (hW : wholeN xn = true) (hB : belowN xn = true) (hZ : numZero xn = false) :
    Calls Tryz.prog 12 #[.slice (some a1) v.length c, .bool errs, .int .i64 ((d : Int) - 1)] w fun e w' => e = .returned (.bool (intN xn)) ∧ Below w.heap.size w w' := by
  obtain ⟨p0, p1, p2, p3, hlt, d2⟩ := h
  dsimp only at p0 p1 p2 p3
  have hw1 : (FloatKind.f64.format.order xn (cutW xn) == some Ordering.eq) = true := hW
  have hB1 : (FloatKind.f64.format.order (xn % 9223372036854775808) 4845873199050653696 == some Ordering.lt) = true := hB
  have hz1 : (FloatKind.f64.format.order xn 0 == some Ordering.eq) = false := hZ
  have hi : intN xn = true := by unfold intN; rw [hW, hB, hZ]; rfl
  rw [hi]
  clear hi
  go_enter Tryz.func12, Tryz.ntmps12
  go_wp2_with fail
  have hb0 : Below w.heap.size w (w.alloc (.cells #[.int .i64 4, .float .f64 xn, .string xt, .int .i64 1] 27)) := below_one _ _
  have hc0 : (w.alloc (.cells #[.int .i64 4, .float .f64 xn, .string xt, .int .i64 1] 27)).cell? ⟨w.heap.size, 1, none⟩ = some (.float .f64 xn) := (blk_cell (blk_new w _) 1).trans rfl
  generalize w.alloc (.cells #[.int .i64 4, .float .f64 xn, .string xt, .int .i64 1] 27) = W0 at *
  first
    | (go_region_with (first | (go_at_call 19; refine (trunc_n xn hN _).mono ?_; rintro e w1 ⟨k1, rfl, rfl⟩) | (go_at_call 20; refine (abs_any xn hx _).mono ?_; rintro e w1 ⟨rfl, rfl⟩)))
    | fail
  all_goals
    go_wp2_with fail
    go_ret
    exact ⟨rfl, by repeat (first | exact hb0 | apply pw_below_drewN | apply below_drew)⟩
set_option maxHeartbeats 8000000 in
set_option maxRecDepth 100000 in
theorem leaf4_zero (v : List V4) (a1 : Addr) (c : Nat) (errs : Bool) (d : Nat) (w : World) (xn : Nat) (xt : ByteArray) (h : At0 v w a1 d ⟨4, xn, xt, v.length⟩) (hc : v.length ≤ c) (hx : xn < 2 ^ 64) (te : xt.toList.isEmpty = true) (hl : (v.length : Int) = 1) (hN : (D.read xn).isNaN = false) (hW : wholeN xn = true) (hB : belowN xn = true) (hZ : numZero xn = true) :
    Calls Tryz.prog 12 #[.slice (some a1) v.length c, .bool errs, .int .i64 ((d : Int) - 1)] w fun e w' => e = .returned (.bool (intN xn)) ∧ Below w.heap.size w w' := by
  obtain ⟨p0, p1, p2, p3, hlt, d2⟩ := h
  dsimp only at p0 p1 p2 p3
  have hw1 : (FloatKind.f64.format.order xn (cutW xn) == some Ordering.eq) = true := hW
  have hB1 : (FloatKind.f64.format.order (xn % 9223372036854775808) 4845873199050653696 == some Ordering.lt) = true := hB
  have hz1 : (FloatKind.f64.format.order xn 0 == some Ordering.eq) = true := hZ
  have hi : intN xn = !negN xn := by unfold intN; rw [hW, hB, hZ]; rfl
  rw [hi]
  clear hi
  go_enter Tryz.func12, Tryz.ntmps12
  go_wp2_with fail
  have hb0 : Below w.heap.size w (w.alloc (.cells #[.int .i64 4, .float .f64 xn, .string xt, .int .i64 1] 27)) := below_one _ _
  have hc0 : (w.alloc (.cells #[.int .i64 4, .float .f64 xn, .string xt, .int .i64 1] 27)).cell? ⟨w.heap.size, 1, none⟩ = some (.float .f64 xn) := (blk_cell (blk_new w _) 1).trans rfl
  generalize w.alloc (.cells #[.int .i64 4, .float .f64 xn, .string xt, .int .i64 1] 27) = W0 at *
  first
    | (go_region_with (first | (go_at_call 19; refine (trunc_n xn hN _).mono ?_; rintro e w1 ⟨k1, rfl, rfl⟩) | (go_at_call 20; refine (abs_any xn hx _).mono ?_; rintro e w1 ⟨rfl, rfl⟩) | (go_at_call 21; refine (signbit_any xn hx _).mono ?_; rintro e w1 ⟨rfl, rfl⟩)))
    | fail
  all_goals
    go_wp2_with fail
    go_ret
    exact ⟨rfl, by repeat (first | exact hb0 | apply pw_below_drewN | apply below_drew)⟩
set_option maxHeartbeats 8000000 in
set_option maxRecDepth 100000 in
theorem leaf4_long (v : List V4) (a1 : Addr) (c : Nat) (errs : Bool) (d : Nat) (w : World) (xn : Nat) (xt : ByteArray) (h : At0 v w a1 d ⟨4, xn, xt, v.length⟩) (hc : v.length ≤ c) (hx : xn < 2 ^ 64) (te : xt.toList.isEmpty = true) (hl : ((v.length : Int) == 1) = false) :
    Calls Tryz.prog 12 #[.slice (some a1) v.length c, .bool errs, .int .i64 ((d : Int) - 1)] w fun e w' => e = .returned (.bool false) ∧ Below w.heap.size w w' := by
  obtain ⟨p0, p1, p2, p3, hlt, d2⟩ := h
  dsimp only at p0 p1 p2 p3
  go_enter Tryz.func12, Tryz.ntmps12
  go_wp2_with fail
  go_region
  go_wp2_with fail
  go_ret
  exact ⟨rfl, below_drew (below_one _ _)⟩
theorem leaf4 (v : List V4) (a1 : Addr) (c : Nat) (errs : Bool) (d : Nat) (w : World) (xn : Nat) (xt : ByteArray) (h : At0 v w a1 d ⟨4, xn, xt, v.length⟩) (hc : v.length ≤ c) (hx : xn < 2 ^ 64) (te : xt.toList.isEmpty = true) :
    Calls Tryz.prog 12 #[.slice (some a1) v.length c, .bool errs, .int .i64 ((d : Int) - 1)] w fun e w' => e = .returned (.bool (decide (v.length = 1) && intN xn)) ∧ Below w.heap.size w w' := by
  have el : ((v.length : Int) == 1) = decide (v.length = 1) := by rw [Bool.eq_iff_iff]; simp; omega
  by_cases hl : v.length = 1
  · have hl' : (v.length : Int) = 1 := by omega
    rw [decide_eq_true hl, Bool.true_and]
    cases hN : (D.read xn).isNaN with
    | true => exact leaf4_nan v a1 c errs d w xn xt h hc hx te hl' hN
    | false =>
      cases hW : wholeN xn with
      | false => exact leaf4_frac v a1 c errs d w xn xt h hc hx te hl' hN hW
      | true =>
        cases hB : belowN xn with
        | false => exact leaf4_big v a1 c errs d w xn xt h hc hx te hl' hN hW hB
        | true =>
          cases hZ : numZero xn with
          | false => exact leaf4_num v a1 c errs d w xn xt h hc hx te hl' hN hW hB hZ
          | true => exact leaf4_zero v a1 c errs d w xn xt h hc hx te hl' hN hW hB hZ
  · rw [decide_eq_false hl, Bool.false_and]
    exact leaf4_long v a1 c errs d w xn xt h hc hx te (by rw [el]; exact decide_eq_false hl)
end Go.Proofs.YtdcfbgpcpjjjaaaGreat.Co
