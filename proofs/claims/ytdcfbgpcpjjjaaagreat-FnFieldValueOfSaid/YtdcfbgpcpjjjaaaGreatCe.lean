/-
  The reference's dataRight at a value without parts, walked.
-/
import Derived.Test.YtdcfbgpcpjjjaaaGreatCd
namespace Go.Proofs.YtdcfbgpcpjjjaaaGreat.Co
open Go.RowKit Go.Proofs.YtdcfbgpcpjjjaaaGreatW.PrintWords Go.Proofs.YtdcfbgpcpjjjaaaGreatW.PrintLast Go.Proofs.YtdcfbgpcpjjjaaaGreatW.PrintMore
open Go.Proofs.YtdcfbgpcpjjjaaaGreat.Fl Go.Proofs.YtdcfbgpcpjjjaaaGreat.Dr Go.Proofs.YtdcfbgpcpjjjaaaGreat.PFnFieldValueOf
set_option linter.unusedVariables false
set_option linter.unusedSimpArgs false
attribute [local go_sem] run_store_float
/-- Where the first node lies, and that the head is right. -/
structure At0 (v : List V4) (w : World) (a1 : Addr) (d : Nat) (x : V4) : Prop where
  p0 : w.cell? a1 = some (.int .i64 x.kind)
  p1 : w.cell? ⟨a1.block, a1.off + 1, none⟩ = some (.float .f64 x.num)
  p2 : w.cell? ⟨a1.block, a1.off + 2, none⟩ = some (.string x.text)
  p3 : w.cell? ⟨a1.block, a1.off + 3, none⟩ = some (.int .i64 v.length)
  hlt : (0 : Int) < (v.length : Int)
  d2 : decide ((d : Int) - 1 < 0) = false
set_option maxHeartbeats 4000000 in
theorem leaf1 (v : List V4) (a1 : Addr) (c : Nat) (errs : Bool) (d : Nat) (w : World) (xn : Nat) (xt : ByteArray) (h : At0 v w a1 d ⟨1, xn, xt, v.length⟩) (hc : v.length ≤ c) (nz : (FloatKind.f64.format.order xn 0 != some Ordering.eq) = false) (te : xt.toList.isEmpty = true) :
    Calls Tryz.prog 12 #[.slice (some a1) v.length c, .bool errs, .int .i64 ((d : Int) - 1)] w fun e w' => e = .returned (.bool (decide (v.length = 1))) ∧ Below w.heap.size w w' := by
  obtain ⟨p0, p1, p2, p3, hlt, d2⟩ := h
  dsimp only at p0 p1 p2 p3
  have el : ((v.length : Int) == 1) = decide (v.length = 1) := by rw [Bool.eq_iff_iff]; simp; omega
  go_enter Tryz.func12, Tryz.ntmps12
  go_wp2_with fail
  go_ret
  exact ⟨by rw [← el]; rfl, below_one _ _⟩
set_option maxHeartbeats 4000000 in
theorem leaf2 (v : List V4) (a1 : Addr) (c : Nat) (errs : Bool) (d : Nat) (w : World) (xn : Nat) (xt : ByteArray) (h : At0 v w a1 d ⟨2, xn, xt, v.length⟩) (hc : v.length ≤ c) (nz : (FloatKind.f64.format.order xn 0 != some Ordering.eq) = false) (te : xt.toList.isEmpty = true) :
    Calls Tryz.prog 12 #[.slice (some a1) v.length c, .bool errs, .int .i64 ((d : Int) - 1)] w fun e w' => e = .returned (.bool (decide (v.length = 1))) ∧ Below w.heap.size w w' := by
  obtain ⟨p0, p1, p2, p3, hlt, d2⟩ := h
  dsimp only at p0 p1 p2 p3
  have el : ((v.length : Int) == 1) = decide (v.length = 1) := by rw [Bool.eq_iff_iff]; simp; omega
  go_enter Tryz.func12, Tryz.ntmps12
  go_wp2_with fail
  go_ret
  exact ⟨by rw [← el]; rfl, below_one _ _⟩
set_option maxHeartbeats 4000000 in
theorem leaf3 (v : List V4) (a1 : Addr) (c : Nat) (errs : Bool) (d : Nat) (w : World) (xn : Nat) (xt : ByteArray) (h : At0 v w a1 d ⟨3, xn, xt, v.length⟩) (hc : v.length ≤ c) (nz : (FloatKind.f64.format.order xn 0 != some Ordering.eq) = false) (te : xt.toList.isEmpty = true) :
    Calls Tryz.prog 12 #[.slice (some a1) v.length c, .bool errs, .int .i64 ((d : Int) - 1)] w fun e w' => e = .returned (.bool (decide (v.length = 1))) ∧ Below w.heap.size w w' := by
  obtain ⟨p0, p1, p2, p3, hlt, d2⟩ := h
  dsimp only at p0 p1 p2 p3
  have el : ((v.length : Int) == 1) = decide (v.length = 1) := by rw [Bool.eq_iff_iff]; simp; omega
  go_enter Tryz.func12, Tryz.ntmps12
  go_wp2_with fail
  go_ret
  exact ⟨by rw [← el]; rfl, below_one _ _⟩
set_option maxHeartbeats 4000000 in
theorem leaf9 (v : List V4) (a1 : Addr) (c : Nat) (errs : Bool) (d : Nat) (w : World) (xn : Nat) (xt : ByteArray) (h : At0 v w a1 d ⟨9, xn, xt, v.length⟩) (hc : v.length ≤ c) (nz : (FloatKind.f64.format.order xn 0 != some Ordering.eq) = false) :
    Calls Tryz.prog 12 #[.slice (some a1) v.length c, .bool errs, .int .i64 ((d : Int) - 1)] w fun e w' => e = .returned (.bool false) ∧ Below w.heap.size w w' := by
  obtain ⟨p0, p1, p2, p3, hlt, d2⟩ := h
  dsimp only at p0 p1 p2 p3
  go_enter Tryz.func12, Tryz.ntmps12
  go_wp2_with fail
  go_ret
  exact ⟨rfl, below_one _ _⟩
set_option maxHeartbeats 4000000 in
theorem leafN (v : List V4) (a1 : Addr) (c : Nat) (errs : Bool) (d : Nat) (w : World) (xk : Int) (xn : Nat) (xt : ByteArray) (h : At0 v w a1 d ⟨xk, xn, xt, v.length⟩) (hc : v.length ≤ c) (k1 : (xk == 1) = false) (k2 : (xk == 2) = false) (k3 : (xk == 3) = false) (k4 : (xk == 4) = false) (k5 : (xk == 5) = false) (k6 : (xk == 6) = false) (k7 : (xk == 7) = false) (k8 : (xk == 8) = false) (k10 : (xk == 10) = false) (n4 : (xk != 4) = true) (n5 : (xk != 5) = true) (n6 : (xk != 6) = true) (n9 : (xk != 9) = true) (nz : (FloatKind.f64.format.order xn 0 != some Ordering.eq) = false) (te : xt.toList.isEmpty = true) :
    Calls Tryz.prog 12 #[.slice (some a1) v.length c, .bool errs, .int .i64 ((d : Int) - 1)] w fun e w' => e = .returned (.bool false) ∧ Below w.heap.size w w' := by
  obtain ⟨p0, p1, p2, p3, hlt, d2⟩ := h
  dsimp only at p0 p1 p2 p3
  go_enter Tryz.func12, Tryz.ntmps12
  go_wp2_with fail
  go_ret
  exact ⟨rfl, below_one _ _⟩
set_option maxHeartbeats 4000000 in
theorem leaf10 (v : List V4) (a1 : Addr) (c : Nat) (errs : Bool) (d : Nat) (w : World) (xn : Nat) (xt : ByteArray) (h : At0 v w a1 d ⟨10, xn, xt, v.length⟩) (hc : v.length ≤ c) (nz : (FloatKind.f64.format.order xn 0 != some Ordering.eq) = false) (te : xt.toList.isEmpty = true) :
    Calls Tryz.prog 12 #[.slice (some a1) v.length c, .bool errs, .int .i64 ((d : Int) - 1)] w fun e w' => e = .returned (.bool (errs && decide (v.length = 1))) ∧ Below w.heap.size w w' := by
  obtain ⟨p0, p1, p2, p3, hlt, d2⟩ := h
  dsimp only at p0 p1 p2 p3
  have el : ((v.length : Int) == 1) = decide (v.length = 1) := by rw [Bool.eq_iff_iff]; simp; omega
  cases errs with
  | false =>
    go_enter Tryz.func12, Tryz.ntmps12
    go_wp2_with fail
    go_ret
    exact ⟨rfl, below_one _ _⟩
  | true =>
    go_enter Tryz.func12, Tryz.ntmps12
    go_wp2_with fail
    go_ret
    exact ⟨by rw [← el]; rfl, below_one _ _⟩
set_option maxHeartbeats 4000000 in
theorem leaf5 (v : List V4) (a1 : Addr) (c : Nat) (errs : Bool) (d : Nat) (w : World) (xn : Nat) (xt : ByteArray) (h : At0 v w a1 d ⟨5, xn, xt, v.length⟩) (hc : v.length ≤ c) (hx : xn < 2 ^ 64) (te : xt.toList.isEmpty = true) :
    Calls Tryz.prog 12 #[.slice (some a1) v.length c, .bool errs, .int .i64 ((d : Int) - 1)] w fun e w' => e = .returned (.bool (decide (v.length = 1) && finN xn)) ∧ Below w.heap.size w w' := by
  obtain ⟨p0, p1, p2, p3, hlt, d2⟩ := h
  dsimp only at p0 p1 p2 p3
  have el : ((v.length : Int) == 1) = decide (v.length = 1) := by rw [Bool.eq_iff_iff]; simp; omega
  have lf : (v.length : Int) = 1 ∨ ((v.length : Int) == 1) = false := by
    by_cases hl : v.length = 1
    · exact .inl (by omega)
    · exact .inr (by rw [el]; exact decide_eq_false hl)
  rcases lf with hl | hl
  · have l1 : ((v.length : Int) == 1) = true := by rw [hl]; rfl
    rw [← el, l1, Bool.true_and]
    cases hn : nanN xn with
    | true =>
      have hf : finN xn = false := by unfold finN; rw [hn]; rfl
      rw [hf]
      go_enter Tryz.func12, Tryz.ntmps12
      go_wp2_with fail
      refine (isNaN_any xn _).mono ?_
      rintro e w1 ⟨rfl, rfl⟩
      go_wp2_with fail
      go_ret
      exact ⟨rfl, below_one _ _⟩
    | false =>
      have hf : finN xn = !infN xn := by unfold finN; rw [hn]; rfl
      rw [hf]
      go_enter Tryz.func12, Tryz.ntmps12
      go_wp2_with fail
      refine (isNaN_any xn _).mono ?_
      rintro e w1 ⟨rfl, rfl⟩
      go_wp2_with fail
      refine (isInf_any xn hx _).mono ?_
      rintro e w1 ⟨rfl, rfl⟩
      go_wp2_with fail
      go_ret
      exact ⟨rfl, below_one _ _⟩
  · rw [← el, hl, Bool.false_and]
    clear el
    go_enter Tryz.func12, Tryz.ntmps12
    go_wp2_with fail
    go_ret
    exact ⟨rfl, below_one _ _⟩
set_option maxHeartbeats 4000000 in
theorem leaf6 (v : List V4) (a1 : Addr) (c : Nat) (errs : Bool) (d : Nat) (w : World) (xn : Nat) (xt : ByteArray) (h : At0 v w a1 d ⟨6, xn, xt, v.length⟩) (hc : v.length ≤ c) (nz : (FloatKind.f64.format.order xn 0 != some Ordering.eq) = false) :
    Calls Tryz.prog 12 #[.slice (some a1) v.length c, .bool errs, .int .i64 ((d : Int) - 1)] w fun e w' => e = .returned (.bool (decide (v.length = 1) && (decide (xt.size ≤ 200) && utf xt))) ∧ Below w.heap.size w w' := by
  obtain ⟨p0, p1, p2, p3, hlt, d2⟩ := h
  dsimp only at p0 p1 p2 p3
  have el : ((v.length : Int) == 1) = decide (v.length = 1) := by rw [Bool.eq_iff_iff]; simp; omega
  have lf : (v.length : Int) = 1 ∨ ((v.length : Int) == 1) = false := by
    by_cases hl : v.length = 1
    · exact .inl (by omega)
    · exact .inr (by rw [el]; exact decide_eq_false hl)
  rcases lf with hl | hl
  · have l1 : ((v.length : Int) == 1) = true := by rw [hl]; rfl
    rw [← el, l1, Bool.true_and]
    by_cases hz : xt.size ≤ 200
    · have z1 : decide ((xt.size : Int) ≤ 200) = true := decide_eq_true (by omega)
      rw [decide_eq_true hz, Bool.true_and]
      go_enter Tryz.func12, Tryz.ntmps12
      go_wp2_with fail
      refine (utf8_any xt (by omega) _).mono ?_
      rintro e w1 ⟨rfl, hd⟩
      go_wp2_with fail
      go_ret
      exact ⟨rfl, by obtain ⟨⟨k, rfl⟩⟩ := hd; exact pw_below_drewN (below_one _ _) k⟩
    · have z1 : decide ((xt.size : Int) ≤ 200) = false := decide_eq_false (by omega)
      rw [decide_eq_false hz, Bool.false_and]
      go_enter Tryz.func12, Tryz.ntmps12
      go_wp2_with fail
      go_ret
      exact ⟨rfl, below_one _ _⟩
  · rw [← el, hl, Bool.false_and]
    clear el
    go_enter Tryz.func12, Tryz.ntmps12
    go_wp2_with fail
    go_ret
    exact ⟨rfl, below_one _ _⟩
end Go.Proofs.YtdcfbgpcpjjjaaaGreat.Co
