/-
  The test of sizes comes to an answer; a value of one node, sorted, is itself; when two values of one node are the same.
-/
import Derived.Test.YtdcfbgpcpjjjaaaGreatDoorCi
namespace Go.Proofs.YtdcfbgpcpjjjaaaGreatDoor.Co
open Go.RowKit Go.Proofs.YtdcfbgpcpjjjaaaGreatDoorW.PrintWords Go.Proofs.YtdcfbgpcpjjjaaaGreatDoorW.PrintLast Go.Proofs.YtdcfbgpcpjjjaaaGreatDoorW.PrintMore
open Go.Proofs.YtdcfbgpcpjjjaaaGreatDoor.Fl Go.Proofs.YtdcfbgpcpjjjaaaGreatDoor.Dr Go.Proofs.YtdcfbgpcpjjjaaaGreatDoor.PFnCoerceString
set_option linter.unusedVariables false
set_option linter.unusedSimpArgs false
attribute [local go_sem] run_store_float
set_option maxHeartbeats 4000000 in
theorem fits5_any (x : V4) (w : World) : Calls Tryz.prog 15 #[val27 x] w fun e w' => Ans e ∧ Below w.heap.size w w' := by
  obtain ⟨xk, xn, xt, xs⟩ := x
  by_cases h : 2147483647 < xt.size
  · have h' : decide (2147483647 < (xt.size : Int)) = true := decide_eq_true (by omega)
    go_enter Tryz.func15, Tryz.ntmps15
    go_wp2_with fail
    go_ret
    exact ⟨Ans.mk _, below_one _ _⟩
  · have h' : decide (2147483647 < (xt.size : Int)) = false := decide_eq_false (by omega)
    go_enter Tryz.func15, Tryz.ntmps15
    go_wp2_with fail
    go_ret
    exact ⟨Ans.mk _, below_one _ _⟩
set_option maxHeartbeats 4000000 in
theorem fits4_any (v : List V4) (A : Option Addr) (c : Nat) (w : World) (h : Kd.C k27 w A v.length v) (hc : v.length ≤ c) :
    Calls Tryz.prog 5 #[.slice A v.length c] w fun e w' => Ans e ∧ Below w.heap.size w w' := by
  have HC := Aside0.mk h
  clear h
  by_cases h : 2147483647 < v.length
  · have h' : decide (2147483647 < (v.length : Int)) = true := decide_eq_true (by omega)
    go_enter Tryz.func5, Tryz.ntmps5
    go_wp2_with fail
    go_ret
    exact ⟨Ans.mk _, Below.refl _ _⟩
  · have h' : decide (2147483647 < (v.length : Int)) = false := decide_eq_false (by omega)
    go_enter Tryz.func5, Tryz.ntmps5
    go_wp2_with fail
    go_loopw [10] (fun v10 wr => ∃ i : Nat, i ≤ v.length ∧ v10 = .int .i64 i ∧ Aside0 (Below w.heap.size w wr)) (fun v10 _ => v.length - (intOf v10).toNat)
    case atStart => exact ⟨0, Nat.zero_le _, rfl, ⟨Below.refl _ _⟩⟩
    case round =>
      obtain ⟨i, hi, rfl, HB⟩ := hrel
      by_cases hlt : i < v.length
      · have hki : (i : Int) < (v.length : Int) := by omega
        have hw1 : IntKind.i64.wrap ((i : Int) + 1) = ((i + 1 : Nat) : Int) := by rw [i64_w]; unfold wrap64; omega
        obtain ⟨ad, rfl, p0, p1, p2, p3⟩ := at_27 (Kd.C_below HC.out HB.out) (i : Int) (by omega) hki
        rw [Int.toNat_natCast] at p0 p1 p2 p3
        generalize rd27 v (i : Int) = x at p0 p1 p2 p3
        obtain ⟨xk, xn, xt, xs⟩ := x
        dsimp only at p0 p1 p2 p3
        have HF := Aside0.mk (fits5_any ⟨xk, xn, xt, xs⟩)
        go_wp2_with fail
        refine (HF.out _).mono ?_
        rintro e w1 ⟨⟨b, rfl⟩, hb⟩
        have HB1 := Aside0.mk (below_step (below_then HB.out HB.out.size (below_one wr _)) hb)
        clear hb
        cases b with
        | false =>
          go_wp2_with fail
          go_ret
          exact ⟨Ans.mk _, HB1.out⟩
        | true =>
          go_wp2_with fail
          go_roundw
          case rel => exact ⟨i + 1, by omega, by go_num, ⟨HB1.out⟩⟩
          case measure => simp [intOf]; omega
      · obtain rfl : i = v.length := by omega
        have hki : ¬ ((v.length : Int) < (v.length : Int)) := by omega
        go_wp2_with fail
        go_ret
        exact ⟨Ans.mk _, HB.out⟩
set_option maxHeartbeats 4000000 in
theorem parts_one (A : Option Addr) (c : Nat) (w : World) : Calls Tryz.prog 34 #[.slice A 1 c] w fun e w' => e = .returned (.slice none 0 0) ∧ w' = w := by
  go_enter Tryz.func34, Tryz.ntmps34
  go_wp2_with fail
  go_loopw [3, 4] (fun v3 v4 wr => v3 = .slice none 0 0 ∧ v4 = .int .i64 1 ∧ wr = w) (fun _ _ _ => 0)
  case atStart => exact ⟨rfl, rfl, rfl⟩
  case round =>
    obtain ⟨rfl, rfl, rfl⟩ := hrel
    go_wp2_with fail
    go_ret
    exact ⟨rfl, rfl⟩
/-- One node in memory. -/
def Is1 (w : World) (v : Value) (x : V4) : Prop := ∃ A c, v = .slice A 1 c ∧ 1 ≤ c ∧ Kd.C k27 w A 1 [x]
theorem is1_blk {w : World} {g c : Nat} {x : V4} (hc : 1 ≤ c) (h : w.heap[g]? = some (.cells #[.int .i64 x.kind, .float .f64 x.num, .string x.text, .int .i64 x.size] 27 (0, 0))) : Is1 w (.slice (some ⟨g, 0, none⟩) 1 c) x := by
  refine ⟨_, c, rfl, hc, C_vals (l := [x]) (by unfold maxLen; simp) (fun _ => ⟨_, rfl, fun i hi j v hj => ?_⟩)⟩
  obtain rfl : i = 0 := by simp at hi; exact hi
  have hj4 : j < 4 := by
    refine Nat.lt_of_not_le fun hn => ?_
    rw [List.getElem?_eq_none (by simpa using hn)] at hj
    cases hj
  have e : (⟨g, 0, none⟩ : Addr).add (0 * 4 + j) = ⟨g, j, none⟩ := by
    unfold Addr.add
    by_cases h0 : j = 0
    · subst h0; rfl
    · simp [h0]
  rw [e, blk_cell h]
  simp only [List.getElem_cons_zero] at hj
  rw [← hj]
  simp [cs4]
theorem Is1.below {w w' : World} {v : Value} {x : V4} (h : Is1 w v x) (hb : Below w.heap.size w w') : Is1 w' v x := by
  obtain ⟨A, c, e, hc, hC⟩ := h
  exact ⟨A, c, e, hc, Kd.C_below hC hb⟩
set_option maxHeartbeats 4000000 in
theorem made_one (x : V4) (w : World) : Calls Tryz.prog 35 #[val27 x, .slice none 0 0] w fun e w' => ∃ v, e = .returned v ∧ Is1 w' v { x with size := 1 } ∧ Below w.heap.size w w' := by
  obtain ⟨xk, xn, xt, xs⟩ := x
  go_enter Tryz.func35, Tryz.ntmps35
  go_wp2_with fail
  obtain ⟨W0, hW0⟩ : ∃ W0, W0 = (w.alloc (.cells #[.int .i64 xk, .float .f64 xn, .string xt, .int .i64 xs] 27)).alloc (.cells #[.int .i64 xk, .float .f64 xn, .string xt, .int .i64 xs] 27) := ⟨_, rfl⟩
  have hB : Below w.heap.size w W0 := by rw [hW0]; exact below_alloc (below_one _ _) _
  have hb : W0.heap[w.heap.size + 1]? = some (.cells #[.int .i64 xk, .float .f64 xn, .string xt, .int .i64 xs] 27 (0, 0)) := by
    rw [hW0]
    have := blk_new (w.alloc (.cells #[.int .i64 xk, .float .f64 xn, .string xt, .int .i64 xs] 27)) (.cells #[.int .i64 xk, .float .f64 xn, .string xt, .int .i64 xs] 27)
    rw [show (w.alloc (.cells #[.int .i64 xk, .float .f64 xn, .string xt, .int .i64 xs] 27)).heap.size = w.heap.size + 1 from Array.size_push ..] at this
    exact this
  have hl := blk_lt hb
  rw [← hW0]
  have HF : Aside0 (∃ v, Ending.returned (.slice (some ⟨w.heap.size + 1, 0, none⟩) 1 1) = Ending.returned v ∧ Is1 (W0.setCell ⟨w.heap.size + 1, 3, none⟩ (.int .i64 1)) v ⟨xk, xn, xt, 1⟩ ∧ Below w.heap.size w (W0.setCell ⟨w.heap.size + 1, 3, none⟩ (.int .i64 1))) :=
    ⟨⟨_, rfl, is1_blk (Nat.le_refl _) (blk_put hb 3 (.int .i64 1) rfl), below_set hB (by omega)⟩⟩
  have hc3 : W0.cell? ⟨w.heap.size + 1, 3, none⟩ = some (.int .i64 xs) := (blk_cell hb 3).trans rfl
  have hf3 := blk_frozen hb 3
  clear hW0 hB hb
  generalize w.heap.size + 1 = g at *
  go_loopw [5, 6] (fun v5 v6 wr => v5 = .slice (some ⟨g, 0, none⟩) 1 1 ∧ v6 = .int .i64 0 ∧ wr = W0) (fun _ _ _ => 0)
  case atStart => exact ⟨rfl, rfl, rfl⟩
  case round =>
    obtain ⟨rfl, rfl, rfl⟩ := hrel
    go_wp2_with fail
    go_ret
    exact HF.out
theorem Is1.at0 {w : World} {A : Option Addr} {c : Nat} {x : V4} (h : Kd.C k27 w A 1 [x]) : ∃ ad, A = some ad ∧ w.cell? ad = some (.int .i64 x.kind) ∧
    w.cell? ⟨ad.block, ad.off + 1, none⟩ = some (.float .f64 x.num) ∧ w.cell? ⟨ad.block, ad.off + 2, none⟩ = some (.string x.text) ∧ w.cell? ⟨ad.block, ad.off + 3, none⟩ = some (.int .i64 x.size) := at0_27 h (by decide)
set_option maxHeartbeats 4000000 in
theorem sorted_one (v : Value) (x : V4) (w : World) (h : Is1 w v x) : Calls Tryz.prog 20 #[v] w fun e w' => ∃ v', e = .returned v' ∧ Is1 w' v' { x with size := 1 } ∧ Below w.heap.size w w' := by
  obtain ⟨A, c, rfl, hc, hC⟩ := h
  obtain ⟨ad, rfl, p0, p1, p2, p3⟩ := Is1.at0 (c := c) hC
  clear hC
  obtain ⟨xk, xn, xt, xs⟩ := x
  have HM := Aside0.mk (made_one ⟨xk, xn, xt, xs⟩ w)
  dsimp only at p0 p1 p2 p3
  go_enter Tryz.func20, Tryz.ntmps20
  go_wp2_with fail
  refine (parts_one (some ad) c _).mono ?_
  rintro e w1 ⟨rfl, rfl⟩
  go_wp2_with fail
  go_loopw [4] (fun v4 wr => v4 = .int .i64 0 ∧ wr = w1) (fun _ _ => 0)
  case atStart => exact ⟨rfl, rfl⟩
  case round =>
    obtain ⟨rfl, rfl⟩ := hrel
    go_wp2_with fail
    refine HM.out.mono ?_
    rintro e w2 ⟨v', rfl, h2, hb⟩
    have H2 := Aside0.mk h2
    have HB := Aside0.mk hb
    clear h2 hb
    go_wp2_with fail
    go_ret
    exact ⟨v', rfl, H2.out, HB.out⟩
theorem eqf (x y : Nat) (w : World) : (Op.equalIn 9999 25 (.float .f64 x) (.float .f64 y)).run Tryz.prog w = .ok (Op.floatEq .f64 x y) w := by kernel_rfl
/-- When two nodes are the same, but for their sizes. -/
def same1 (x y : V4) : Bool := decide (x.kind = y.kind) && (D.order x.num y.num == some .eq) && decide (x.text = y.text)
set_option maxHeartbeats 4000000 in
theorem same_one (v v' : Value) (x y : V4) (w : World) (h : Is1 w v x) (h' : Is1 w v' y) (hk : x.kind = y.kind) (hn : D.order x.num y.num = some .eq) (ht : x.text = y.text) :
    Calls Tryz.prog 9 #[v, v'] w fun e w' => e = .returned (.bool true) ∧ Below w.heap.size w w' := by
  have HS := Aside0.mk (sorted_one v x w h)
  have HS' := Aside0.mk (fun w1 (hb : Below w.heap.size w w1) => sorted_one v' y w1 (h'.below hb))
  obtain ⟨A, c, rfl, -, -⟩ := h
  obtain ⟨A', c', rfl, -, -⟩ := h'
  obtain ⟨xk, xn, xt, xs⟩ := x
  obtain ⟨yk, yn, yt, ys⟩ := y
  dsimp only at hk hn ht
  subst hk; subst ht
  have hq : ∀ W : World, (Op.equalIn 9999 25 (.float .f64 xn) (.float .f64 yn)).run Tryz.prog W = .ok true W := fun W => by
    rw [eqf]
    show Result.ok (D.order xn yn == some .eq) W = _
    rw [hn]; rfl
  go_enter Tryz.func9, Tryz.ntmps9
  go_wp2_with fail
  refine HS.out.mono ?_
  rintro e w1 ⟨u, rfl, h1, hb1⟩
  have H1 := Aside0.mk h1
  have HB1 := Aside0.mk hb1
  clear h1 hb1
  go_wp2_with fail
  refine (HS'.out w1 HB1.out).mono ?_
  rintro e w2 ⟨u', rfl, h2, hb2⟩
  obtain ⟨A1, c1, rfl, hc1, hC1⟩ := H1.out.below hb2
  obtain ⟨ad1, rfl, p0, p1, p2, p3⟩ := Is1.at0 (c := c1) hC1
  obtain ⟨A2, c2, rfl, hc2, hC2⟩ := h2
  obtain ⟨ad2, rfl, q0, q1, q2, q3⟩ := Is1.at0 (c := c2) hC2
  have HB2 := Aside0.mk (below_step HB1.out hb2)
  clear hb2 hC1 hC2 H1 HB1 HS HS'
  dsimp only at p0 p1 p2 p3 q0 q1 q2 q3
  go_wp2_with fail
  go_loopw [7] (fun v7 wr => (v7 = .int .i64 0 ∧ wr = w2 ∨ v7 = .int .i64 1 ∧ Aside0 (Below w.heap.size w wr))) (fun v7 _ => 1 - (intOf v7).toNat)
  case atStart => exact .inl ⟨rfl, rfl⟩
  case round =>
    rcases hrel with ⟨rfl, rfl⟩ | ⟨rfl, HB⟩
    · go_wp2_with fail
      go_region
      go_wp2_with fail
      go_roundw
      case rel => exact .inr ⟨by go_num, ⟨below_drew HB2.out⟩⟩
      case measure => simp [intOf]
    · go_wp2_with fail
      go_ret
      exact ⟨rfl, HB.out⟩
end Go.Proofs.YtdcfbgpcpjjjaaaGreatDoor.Co
