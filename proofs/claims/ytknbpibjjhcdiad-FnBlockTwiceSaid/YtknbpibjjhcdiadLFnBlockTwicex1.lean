-- written by a program of this session out of the translation (printext.py); not trusted: Lean checks it
import Derived.Test.YtknbpibjjhcdiadLFnBlockTwicex0
namespace Go.Proofs.Ytknbpibjjhcdiad.PFnBlockTwice.Z.L
open Go.RowKit Go.Proofs.YtknbpibjjhcdiadW.PrintWords Go.Proofs.YtknbpibjjhcdiadW.PrintLast Go.Proofs.YtknbpibjjhcdiadW.PrintMore
attribute [local go_sem] max2_int min2_int max_two min_two max_three min_three max_four min_four   -- for this text's walks alone
set_option linter.unusedVariables false
set_option linter.unusedSimpArgs false

-- taken as given: function 4 (laws_short9)

-- taken as given: function 5 (spec_BlockSure)

-- taken as given: function 15 (lexer_blockStringValue)

/-! ### lexer_BlockValue: function 11 -/
def lexer_BlockValue.f (k : Nat) (a0 : ByteArray) : Option (ByteArray) := (lexer_blockStringValue.f k a0).bind fun t101 => (some t101)
theorem lexer_BlockValue.mono : ∀ a0 k, LeO (lexer_BlockValue.f k a0) (lexer_BlockValue.f (k + 1) a0) := by
  intro a0 k
  unfold lexer_BlockValue.f
  repeat' first
      | (with_reducible exact lexer_blockStringValue.mono _ _)
      | (with_reducible exact LeO.refl _)
      | (with_reducible exact LeO.none _)
      | (with_reducible refine LeO.ite ?_ ?_)
      | (with_reducible refine LeO.bind ?_ (fun _ => ?_))
      | exact lexer_blockStringValue.mono _ _
      | exact LeO.none _
      | refine LeO.ite ?_ ?_
      | refine LeO.bind ?_ (fun _ => ?_)
set_option maxHeartbeats 8000000 in
set_option maxRecDepth 100000 in
theorem lexer_BlockValue.calls (k : Nat) (a0 : ByteArray) (r : ByteArray) (w : World) (h : lexer_BlockValue.f k a0 = some r) :
    Calls Try.prog 11 #[.string a0] w fun e w' => e = .returned (.string r) ∧ Below w.heap.size w w' := by
  have HB := Aside0.mk (Below.refl w.heap.size w)
  have H : ((lexer_blockStringValue.f k a0).bind fun t101 => (some t101)) = some r := h
  clear h
  replace H := Option.bind_eq_some_iff.mp H
  obtain ⟨t101, A20, H⟩ := H
  replace H : (some t101) = some r := H
  have A2 := Aside0.mk A20
  clear A20
  obtain rfl := Option.some.inj H
  go_enter Try.func11, Try.ntmps11
  go_wp2_with (first | ((with_reducible refine gate_callee (f := 15) rfl ?_); refine goesL_ (some 4) rfl rfl Try.func15 (by kernel_rfl) rfl #[.string a0] rfl (by (try simp only [List.map_toArray, List.map_cons, List.map_nil]); first | done | rfl | (simp only [List.length_drop, List.length_take]; rfl)) ?_; (with_reducible refine (lexer_blockStringValue.calls k a0 t101 _ A2.out).mono ?_); rintro e w3 ⟨rfl, hb⟩; refine ⟨_, rfl, ?_⟩; have n0_ := Aside0.mk (below_step (by repeat (first | (with_reducible first | exact HB.out | apply below_alloc | apply pw_below_drewN | apply below_drew1) | exact HB.out)) hb); clear HB; have HB := n0_; clear n0_; (try clear hb); (try clear hb2); (try clear hk); (try clear hi)))
  go_ret
  exact ⟨by first | rfl | (simp [errW_none, errW_some] <;> rfl) | (simp [*, errW_none, errW_some] <;> rfl), by repeat (first | (with_reducible first | exact HB.out | apply below_alloc | apply pw_below_drewN | apply below_drew1) | exact HB.out)⟩

/-! ### impl_BlockValue: function 6 -/
def impl_BlockValue.f (k : Nat) (a0 : ByteArray) : Option (ByteArray) := (lexer_BlockValue.f k a0).bind fun t102 => (some t102)
theorem impl_BlockValue.mono : ∀ a0 k, LeO (impl_BlockValue.f k a0) (impl_BlockValue.f (k + 1) a0) := by
  intro a0 k
  unfold impl_BlockValue.f
  repeat' first
      | (with_reducible exact lexer_BlockValue.mono _ _)
      | (with_reducible exact LeO.refl _)
      | (with_reducible exact LeO.none _)
      | (with_reducible refine LeO.ite ?_ ?_)
      | (with_reducible refine LeO.bind ?_ (fun _ => ?_))
      | exact lexer_BlockValue.mono _ _
      | exact LeO.none _
      | refine LeO.ite ?_ ?_
      | refine LeO.bind ?_ (fun _ => ?_)
set_option maxHeartbeats 8000000 in
set_option maxRecDepth 100000 in
theorem impl_BlockValue.calls (k : Nat) (a0 : ByteArray) (r : ByteArray) (w : World) (h : impl_BlockValue.f k a0 = some r) :
    Calls Try.prog 6 #[.string a0] w fun e w' => e = .returned (.string r) ∧ Below w.heap.size w w' := by
  have HB := Aside0.mk (Below.refl w.heap.size w)
  have H : ((lexer_BlockValue.f k a0).bind fun t102 => (some t102)) = some r := h
  clear h
  replace H := Option.bind_eq_some_iff.mp H
  obtain ⟨t102, A20, H⟩ := H
  replace H : (some t102) = some r := H
  have A2 := Aside0.mk A20
  clear A20
  obtain rfl := Option.some.inj H
  go_enter Try.func6, Try.ntmps6
  go_wp2_with (first | ((with_reducible refine gate_callee (f := 11) rfl ?_); refine goesL_ (some 4) rfl rfl Try.func11 (by kernel_rfl) rfl #[.string a0] rfl (by (try simp only [List.map_toArray, List.map_cons, List.map_nil]); first | done | rfl | (simp only [List.length_drop, List.length_take]; rfl)) ?_; (with_reducible refine (lexer_BlockValue.calls k a0 t102 _ A2.out).mono ?_); rintro e w3 ⟨rfl, hb⟩; refine ⟨_, rfl, ?_⟩; have n0_ := Aside0.mk (below_step (by repeat (first | (with_reducible first | exact HB.out | apply below_alloc | apply pw_below_drewN | apply below_drew1) | exact HB.out)) hb); clear HB; have HB := n0_; clear n0_; (try clear hb); (try clear hb2); (try clear hk); (try clear hi)))
  go_ret
  exact ⟨by first | rfl | (simp [errW_none, errW_some] <;> rfl) | (simp [*, errW_none, errW_some] <;> rfl), by repeat (first | (with_reducible first | exact HB.out | apply below_alloc | apply pw_below_drewN | apply below_drew1) | exact HB.out)⟩

-- taken as given: function 7 (spec_Lines)

-- taken as given: function 8 (spec_BlockValue)

/-! ### laws_FnBlockTwice: function 3 -/
mutual
def laws_FnBlockTwice.j0 : Nat → ByteArray → Int → Bool → Option (Bool)
  | 0, _, _, _ => none
  | k + 1, x0, x1, x21 => if x21 = true then (some true) else ((impl_BlockValue.f k (⟨#[10, 32, 32, 97, 10]⟩ : ByteArray)).bind fun t105 => ((impl_BlockValue.f k x0).bind fun t106 => ((spec_Lines.f k t106).bind fun t107 => (laws_FnBlockTwice.l0 k x1 (t105.toList == ([97] : List UInt8)) t106 (⟨#[10]⟩ : ByteArray) t107 0))))
def laws_FnBlockTwice.l0 : Nat → Int → Bool → ByteArray → ByteArray → List ByteArray → Int → Option (Bool)
  | 0, _, _, _, _, _, _ => none
  | k + 1, x1, x5, x6, x7, x8, x9 => if x9 < (x8.length : Int) then (if 0 ≤ x9 then (if (rdOf ByteArray.empty x8 x9).toList = ([] : List UInt8) then (laws_FnBlockTwice.j2 k x1 x5 x6 x7 x8 x9 true) else (if 1 + x6.size ≤ 9223372036854775807 then ((spec_BlockSure.f k ((⟨#[10]⟩ : ByteArray) ++ x6)).bind fun t112 => (if t112 = true then ((spec_BlockValue.f k ((⟨#[10]⟩ : ByteArray) ++ x6)).bind fun t113 => (laws_FnBlockTwice.j2 k x1 x5 x6 x7 x8 x9 (t113.toList != x6.toList))) else (laws_FnBlockTwice.j2 k x1 x5 x6 x7 x8 x9 true))) else (none))) else (none)) else (if x5 = true then ((impl_BlockValue.f k x7).bind fun t110 => (some (t110.toList == x6.toList))) else (some false))
def laws_FnBlockTwice.j2 : Nat → Int → Bool → ByteArray → ByteArray → List ByteArray → Int → Bool → Option (Bool)
  | 0, _, _, _, _, _, _, _ => none
  | k + 1, x1, x5, x6, x7, x8, x9, x51 => if x51 = true then (some x5) else (laws_FnBlockTwice.l1 k x1 x5 x6 x7 x8 x9 0)
def laws_FnBlockTwice.l1 : Nat → Int → Bool → ByteArray → ByteArray → List ByteArray → Int → Int → Option (Bool)
  | 0, _, _, _, _, _, _, _ => none
  | k + 1, x1, x5, x6, x7, x8, x9, x10 => if x10 < (Int.tmod (wrap64 (x1)) 21) then (if x7.size + 1 ≤ 9223372036854775807 then (laws_FnBlockTwice.l1 k x1 x5 x6 (x7 ++ (⟨#[32]⟩ : ByteArray)) x8 x9 (wrap64 (x10 + 1))) else (none)) else (if 0 ≤ x9 then (if x9 < (x8.length : Int) then (if (rdOf ByteArray.empty x8 x9).size + 1 ≤ 9223372036854775807 then (if x7.size + ((rdOf ByteArray.empty x8 x9) ++ (⟨#[10]⟩ : ByteArray)).size ≤ 9223372036854775807 then (laws_FnBlockTwice.l0 k x1 x5 x6 (x7 ++ ((rdOf ByteArray.empty x8 x9) ++ (⟨#[10]⟩ : ByteArray))) x8 (wrap64 (x9 + 1))) else (none)) else (none)) else (none)) else (none))
end
def laws_FnBlockTwice.f (k : Nat) (a0 : ByteArray) (a1 : Int) : Option (Bool) := if (a0.size : Int) > 2147483647 then (some true) else ((laws_short9.f k a0).bind fun t103 => (if t103 = true then ((spec_BlockSure.f k a0).bind fun t104 => (laws_FnBlockTwice.j0 k a0 a1 (!t104))) else (laws_FnBlockTwice.j0 k a0 a1 true)))
theorem laws_FnBlockTwice.mono_l : ∀ k, (∀ y0 y1 y2, LeO (laws_FnBlockTwice.j0 k y0 y1 y2) (laws_FnBlockTwice.j0 (k + 1) y0 y1 y2)) ∧ (∀ y0 y1 y2 y3 y4 y5, LeO (laws_FnBlockTwice.l0 k y0 y1 y2 y3 y4 y5) (laws_FnBlockTwice.l0 (k + 1) y0 y1 y2 y3 y4 y5)) ∧ (∀ y0 y1 y2 y3 y4 y5 y6, LeO (laws_FnBlockTwice.j2 k y0 y1 y2 y3 y4 y5 y6) (laws_FnBlockTwice.j2 (k + 1) y0 y1 y2 y3 y4 y5 y6)) ∧ (∀ y0 y1 y2 y3 y4 y5 y6, LeO (laws_FnBlockTwice.l1 k y0 y1 y2 y3 y4 y5 y6) (laws_FnBlockTwice.l1 (k + 1) y0 y1 y2 y3 y4 y5 y6))
  | 0 => ⟨fun _ _ _ r h => by simp [laws_FnBlockTwice.j0] at h, fun _ _ _ _ _ _ r h => by simp [laws_FnBlockTwice.l0] at h, fun _ _ _ _ _ _ _ r h => by simp [laws_FnBlockTwice.j2] at h, fun _ _ _ _ _ _ _ r h => by simp [laws_FnBlockTwice.l1] at h⟩
  | k + 1 => by
    obtain ⟨ih0, ih1, ih2, ih3⟩ := laws_FnBlockTwice.mono_l k
    refine ⟨?_, ?_, ?_, ?_⟩
    · intro y0 y1 y2
      unfold laws_FnBlockTwice.j0
      repeat' first
      | (with_reducible exact ih0 _ _ _)
      | (with_reducible exact ih1 _ _ _ _ _ _)
      | (with_reducible exact ih2 _ _ _ _ _ _ _)
      | (with_reducible exact ih3 _ _ _ _ _ _ _)
      | (with_reducible exact impl_BlockValue.mono _ _)
      | (with_reducible exact laws_short9.mono _ _)
      | (with_reducible exact spec_BlockSure.mono _ _)
      | (with_reducible exact spec_BlockValue.mono _ _)
      | (with_reducible exact spec_Lines.mono _ _)
      | (with_reducible exact LeO.refl _)
      | (with_reducible exact LeO.none _)
      | (with_reducible refine LeO.ite ?_ ?_)
      | (with_reducible refine LeO.bind ?_ (fun _ => ?_))
      | exact ih0 _ _ _
      | exact ih1 _ _ _ _ _ _
      | exact ih2 _ _ _ _ _ _ _
      | exact ih3 _ _ _ _ _ _ _
      | exact impl_BlockValue.mono _ _
      | exact laws_short9.mono _ _
      | exact spec_BlockSure.mono _ _
      | exact spec_BlockValue.mono _ _
      | exact spec_Lines.mono _ _
      | exact LeO.none _
      | refine LeO.ite ?_ ?_
      | refine LeO.bind ?_ (fun _ => ?_)
    · intro y0 y1 y2 y3 y4 y5
      unfold laws_FnBlockTwice.l0
      repeat' first
      | (with_reducible exact ih0 _ _ _)
      | (with_reducible exact ih1 _ _ _ _ _ _)
      | (with_reducible exact ih2 _ _ _ _ _ _ _)
      | (with_reducible exact ih3 _ _ _ _ _ _ _)
      | (with_reducible exact impl_BlockValue.mono _ _)
      | (with_reducible exact laws_short9.mono _ _)
      | (with_reducible exact spec_BlockSure.mono _ _)
      | (with_reducible exact spec_BlockValue.mono _ _)
      | (with_reducible exact spec_Lines.mono _ _)
      | (with_reducible exact LeO.refl _)
      | (with_reducible exact LeO.none _)
      | (with_reducible refine LeO.ite ?_ ?_)
      | (with_reducible refine LeO.bind ?_ (fun _ => ?_))
      | exact ih0 _ _ _
      | exact ih1 _ _ _ _ _ _
      | exact ih2 _ _ _ _ _ _ _
      | exact ih3 _ _ _ _ _ _ _
      | exact impl_BlockValue.mono _ _
      | exact laws_short9.mono _ _
      | exact spec_BlockSure.mono _ _
      | exact spec_BlockValue.mono _ _
      | exact spec_Lines.mono _ _
      | exact LeO.none _
      | refine LeO.ite ?_ ?_
      | refine LeO.bind ?_ (fun _ => ?_)
    · intro y0 y1 y2 y3 y4 y5 y6
      unfold laws_FnBlockTwice.j2
      repeat' first
      | (with_reducible exact ih0 _ _ _)
      | (with_reducible exact ih1 _ _ _ _ _ _)
      | (with_reducible exact ih2 _ _ _ _ _ _ _)
      | (with_reducible exact ih3 _ _ _ _ _ _ _)
      | (with_reducible exact impl_BlockValue.mono _ _)
      | (with_reducible exact laws_short9.mono _ _)
      | (with_reducible exact spec_BlockSure.mono _ _)
      | (with_reducible exact spec_BlockValue.mono _ _)
      | (with_reducible exact spec_Lines.mono _ _)
      | (with_reducible exact LeO.refl _)
      | (with_reducible exact LeO.none _)
      | (with_reducible refine LeO.ite ?_ ?_)
      | (with_reducible refine LeO.bind ?_ (fun _ => ?_))
      | exact ih0 _ _ _
      | exact ih1 _ _ _ _ _ _
      | exact ih2 _ _ _ _ _ _ _
      | exact ih3 _ _ _ _ _ _ _
      | exact impl_BlockValue.mono _ _
      | exact laws_short9.mono _ _
      | exact spec_BlockSure.mono _ _
      | exact spec_BlockValue.mono _ _
      | exact spec_Lines.mono _ _
      | exact LeO.none _
      | refine LeO.ite ?_ ?_
      | refine LeO.bind ?_ (fun _ => ?_)
    · intro y0 y1 y2 y3 y4 y5 y6
      unfold laws_FnBlockTwice.l1
      repeat' first
      | (with_reducible exact ih0 _ _ _)
      | (with_reducible exact ih1 _ _ _ _ _ _)
      | (with_reducible exact ih2 _ _ _ _ _ _ _)
      | (with_reducible exact ih3 _ _ _ _ _ _ _)
      | (with_reducible exact impl_BlockValue.mono _ _)
      | (with_reducible exact laws_short9.mono _ _)
      | (with_reducible exact spec_BlockSure.mono _ _)
      | (with_reducible exact spec_BlockValue.mono _ _)
      | (with_reducible exact spec_Lines.mono _ _)
      | (with_reducible exact LeO.refl _)
      | (with_reducible exact LeO.none _)
      | (with_reducible refine LeO.ite ?_ ?_)
      | (with_reducible refine LeO.bind ?_ (fun _ => ?_))
      | exact ih0 _ _ _
      | exact ih1 _ _ _ _ _ _
      | exact ih2 _ _ _ _ _ _ _
      | exact ih3 _ _ _ _ _ _ _
      | exact impl_BlockValue.mono _ _
      | exact laws_short9.mono _ _
      | exact spec_BlockSure.mono _ _
      | exact spec_BlockValue.mono _ _
      | exact spec_Lines.mono _ _
      | exact LeO.none _
      | refine LeO.ite ?_ ?_
      | refine LeO.bind ?_ (fun _ => ?_)
theorem laws_FnBlockTwice.mono : ∀ a0 a1 k, LeO (laws_FnBlockTwice.f k a0 a1) (laws_FnBlockTwice.f (k + 1) a0 a1) := by
  intro a0 a1 k
  obtain ⟨ih0, ih1, ih2, ih3⟩ := laws_FnBlockTwice.mono_l k
  unfold laws_FnBlockTwice.f
  repeat' first
      | (with_reducible exact ih0 _ _ _)
      | (with_reducible exact ih1 _ _ _ _ _ _)
      | (with_reducible exact ih2 _ _ _ _ _ _ _)
      | (with_reducible exact ih3 _ _ _ _ _ _ _)
      | (with_reducible exact impl_BlockValue.mono _ _)
      | (with_reducible exact laws_short9.mono _ _)
      | (with_reducible exact spec_BlockSure.mono _ _)
      | (with_reducible exact spec_BlockValue.mono _ _)
      | (with_reducible exact spec_Lines.mono _ _)
      | (with_reducible exact LeO.refl _)
      | (with_reducible exact LeO.none _)
      | (with_reducible refine LeO.ite ?_ ?_)
      | (with_reducible refine LeO.bind ?_ (fun _ => ?_))
      | exact ih0 _ _ _
      | exact ih1 _ _ _ _ _ _
      | exact ih2 _ _ _ _ _ _ _
      | exact ih3 _ _ _ _ _ _ _
      | exact impl_BlockValue.mono _ _
      | exact laws_short9.mono _ _
      | exact spec_BlockSure.mono _ _
      | exact spec_BlockValue.mono _ _
      | exact spec_Lines.mono _ _
      | exact LeO.none _
      | refine LeO.ite ?_ ?_
      | refine LeO.bind ?_ (fun _ => ?_)
set_option maxHeartbeats 8000000 in
set_option maxRecDepth 100000 in
theorem laws_FnBlockTwice.calls (k : Nat) (a0 : ByteArray) (a1 : Int) (r : Bool) (w : World) (h : laws_FnBlockTwice.f k a0 a1 = some r) :
    Calls Try.prog 3 #[.string a0, .int .u8 a1] w fun e w' => e = .returned (.bool r) ∧ Below w.heap.size w w' := by
  have HB := Aside0.mk (Below.refl w.heap.size w)
  have H : (if (a0.size : Int) > 2147483647 then (some true) else ((laws_short9.f k a0).bind fun t103 => (if t103 = true then ((spec_BlockSure.f k a0).bind fun t104 => (laws_FnBlockTwice.j0 k a0 a1 (!t104))) else (laws_FnBlockTwice.j0 k a0 a1 true)))) = some r := h
  clear h
  by_cases c3 : (a0.size : Int) > 2147483647
  · rw [if_pos c3] at H
    have c3b0 : decide (2147483647 < (a0.size : Int)) = true := decide_eq_true c3
    have c3b1 : decide (2147483647 < a0.size) = true := decide_eq_true (by omega)
    clear c3
    obtain rfl := Option.some.inj H
    go_enter Try.func3, Try.ntmps3
    go_wp2
    go_ret
    exact ⟨by first | rfl | (simp [errW_none, errW_some] <;> rfl) | (simp [*, errW_none, errW_some] <;> rfl), by repeat (first | (with_reducible first | exact HB.out | apply below_alloc | apply pw_below_drewN | apply below_drew1) | exact HB.out)⟩
  · rw [if_neg c3] at H
    have c3b0 : decide (2147483647 < (a0.size : Int)) = false := decide_eq_false c3
    have c3b1 : decide (2147483647 < a0.size) = false := decide_eq_false (by omega)
    clear c3
    have HC4 := Aside0.mk H
    clear H
    go_enter Try.func3, Try.ntmps3
    go_upto_region 3 with (fail)
    go_cut [21] (fun v21 wc => ∃ (kq : Nat) (x21_3 : Bool), v21 = .bool x21_3 ∧ Aside0 (laws_FnBlockTwice.j0 kq a0 a1 x21_3 = some r) ∧ Aside0 (kq ≤ k) ∧ Aside0 (Below w.heap.size w wc))
    case first =>
      have H := HC4.out
      clear HC4
      replace H := Option.bind_eq_some_iff.mp H
      obtain ⟨t103, A50, H⟩ := H
      replace H : (if t103 = true then ((spec_BlockSure.f k a0).bind fun t104 => (laws_FnBlockTwice.j0 k a0 a1 (!t104))) else (laws_FnBlockTwice.j0 k a0 a1 true)) = some r := H
      have A5 := Aside0.mk A50
      clear A50
      by_cases c6 : t103 = true
      · subst c6
        have H1 : ((spec_BlockSure.f k a0).bind fun t104 => (laws_FnBlockTwice.j0 k a0 a1 (!t104))) = some r := by rw [if_pos rfl] at H; exact H
        clear H
        have H := H1
        clear H1
        replace H := Option.bind_eq_some_iff.mp H
        obtain ⟨t104, A70, H⟩ := H
        replace H : (laws_FnBlockTwice.j0 k a0 a1 (!t104)) = some r := H
        have A7 := Aside0.mk A70
        clear A70
        have H' := Aside0.mk H
        clear H
        go_wp2_with (first | ((with_reducible refine gate_callee (f := 4) rfl ?_); refine goesL_ (some 15) rfl rfl Try.func4 (by kernel_rfl) rfl #[.string a0] rfl (by (try simp only [List.map_toArray, List.map_cons, List.map_nil]); first | done | rfl | (simp only [List.length_drop, List.length_take]; rfl)) ?_; (with_reducible refine (laws_short9.calls k a0 true _ A5.out).mono ?_); rintro e w' ⟨rfl, ⟨nd, rfl⟩⟩; refine ⟨_, rfl, ?_⟩) | (go_at_call 5; (with_reducible refine (spec_BlockSure.calls k a0 t104 _ A7.out).mono ?_); rintro e w8 ⟨rfl, hb⟩; have n0_ := Aside0.mk (below_step (by repeat (first | (with_reducible first | exact HB.out | apply below_alloc | apply pw_below_drewN | apply below_drew1) | exact HB.out)) hb); clear HB; have HB := n0_; clear n0_; (try clear hb); (try clear hb2); (try clear hk); (try clear hi)))
        go_meet
        case rel => exact ⟨_, (!t104), (by first | rfl | (simp; done) | (simp [*]; done)), H', ⟨by first | omega | exact Nat.le_refl _⟩, ⟨by repeat (first | (with_reducible first | exact HB.out | apply below_alloc | apply pw_below_drewN | apply below_drew1) | exact HB.out)⟩⟩
      · replace c6 := Bool.eq_false_iff.mpr c6
        subst c6
        have H1 : (laws_FnBlockTwice.j0 k a0 a1 true) = some r := by rw [if_neg (show ¬ (false = true) by decide)] at H; exact H
        clear H
        have H := H1
        clear H1
        have H' := Aside0.mk H
        clear H
        go_wp2_with (first | ((with_reducible refine gate_callee (f := 4) rfl ?_); refine goesL_ (some 15) rfl rfl Try.func4 (by kernel_rfl) rfl #[.string a0] rfl (by (try simp only [List.map_toArray, List.map_cons, List.map_nil]); first | done | rfl | (simp only [List.length_drop, List.length_take]; rfl)) ?_; (with_reducible refine (laws_short9.calls k a0 false _ A5.out).mono ?_); rintro e w' ⟨rfl, ⟨nd, rfl⟩⟩; refine ⟨_, rfl, ?_⟩))
        go_meet
        case rel => exact ⟨_, (true), (by first | rfl | (simp; done) | (simp [*]; done)), H', ⟨by first | omega | exact Nat.le_refl _⟩, ⟨by repeat (first | (with_reducible first | exact HB.out | apply below_alloc | apply pw_below_drewN | apply below_drew1) | exact HB.out)⟩⟩
    case rest =>
      clear HC4
      try clear p2
      try clear c3
      try clear c3b0
      try clear c3b1
      try clear c4
      try clear c6
      obtain ⟨kq, x21_3, rfl, HA, HJ3, HB⟩ := hcut
      cases kq with
      | zero => exact absurd HA.out (by simp [laws_FnBlockTwice.j0])
      | succ kj3 =>
        have H := HA.out
        clear HA
        simp only [laws_FnBlockTwice.j0] at H
        by_cases c9 : x21_3 = true
        · subst c9
          have H1 : (some true) = some r := by rw [if_pos rfl] at H; exact H
          clear H
          have H := H1
          clear H1
          obtain rfl := Option.some.inj H
          go_wp2
          go_ret
          exact ⟨by first | rfl | (simp [errW_none, errW_some] <;> rfl) | (simp [*, errW_none, errW_some] <;> rfl), by repeat (first | (with_reducible first | exact HB.out | apply below_alloc | apply pw_below_drewN | apply below_drew1) | exact HB.out)⟩
        · replace c9 := Bool.eq_false_iff.mpr c9
          subst c9
          have H1 : ((impl_BlockValue.f kj3 (⟨#[10, 32, 32, 97, 10]⟩ : ByteArray)).bind fun t105 => ((impl_BlockValue.f kj3 a0).bind fun t106 => ((spec_Lines.f kj3 t106).bind fun t107 => (laws_FnBlockTwice.l0 kj3 a1 (t105.toList == ([97] : List UInt8)) t106 (⟨#[10]⟩ : ByteArray) t107 0)))) = some r := by rw [if_neg (show ¬ (false = true) by decide)] at H; exact H
          clear H
          have H := H1
          clear H1
          replace H := Option.bind_eq_some_iff.mp H
          obtain ⟨t105, A100, H⟩ := H
          replace H : ((impl_BlockValue.f kj3 a0).bind fun t106 => ((spec_Lines.f kj3 t106).bind fun t107 => (laws_FnBlockTwice.l0 kj3 a1 (t105.toList == ([97] : List UInt8)) t106 (⟨#[10]⟩ : ByteArray) t107 0))) = some r := H
          have A10 := Aside0.mk A100
          clear A100
          replace H := Option.bind_eq_some_iff.mp H
          obtain ⟨t106, A110, H⟩ := H
          replace H : ((spec_Lines.f kj3 t106).bind fun t107 => (laws_FnBlockTwice.l0 kj3 a1 (t105.toList == ([97] : List UInt8)) t106 (⟨#[10]⟩ : ByteArray) t107 0)) = some r := H
          have A11 := Aside0.mk A110
          clear A110
          replace H := Option.bind_eq_some_iff.mp H
          obtain ⟨t107, A120, H⟩ := H
          replace H : (laws_FnBlockTwice.l0 kj3 a1 (t105.toList == ([97] : List UInt8)) t106 (⟨#[10]⟩ : ByteArray) t107 0) = some r := H
          have A12 := Aside0.mk A120
          clear A120
          have H' := Aside0.mk H
          clear H
          go_wp2_with (first | ((with_reducible refine gate_callee (f := 6) rfl ?_); refine goesL_ (some 22) rfl rfl Try.func6 (by kernel_rfl) rfl #[.string (⟨#[10, 32, 32, 97, 10]⟩ : ByteArray)] rfl (by (try simp only [List.map_toArray, List.map_cons, List.map_nil]); first | done | rfl | (simp only [List.length_drop, List.length_take]; rfl)) ?_; (with_reducible refine (impl_BlockValue.calls kj3 (⟨#[10, 32, 32, 97, 10]⟩ : ByteArray) t105 _ A10.out).mono ?_); rintro e w13 ⟨rfl, hb⟩; refine ⟨_, rfl, ?_⟩; have n0_ := Aside0.mk (below_step (by repeat (first | (with_reducible first | exact HB.out | apply below_alloc | apply pw_below_drewN | apply below_drew1) | exact HB.out)) hb); clear HB; have HB := n0_; clear n0_; (try clear hb); (try clear hb2); (try clear hk); (try clear hi)) | ((with_reducible refine gate_callee (f := 6) rfl ?_); refine goesL_ (some 25) rfl rfl Try.func6 (by kernel_rfl) rfl #[.string a0] rfl (by (try simp only [List.map_toArray, List.map_cons, List.map_nil]); first | done | rfl | (simp only [List.length_drop, List.length_take]; rfl)) ?_; (with_reducible refine (impl_BlockValue.calls kj3 a0 t106 _ A11.out).mono ?_); rintro e w14 ⟨rfl, hb⟩; refine ⟨_, rfl, ?_⟩; have n0_ := Aside0.mk (below_step (by repeat (first | (with_reducible first | exact HB.out | apply below_alloc | apply pw_below_drewN | apply below_drew1) | exact HB.out)) hb); clear HB; have HB := n0_; clear n0_; (try clear hb); (try clear hb2); (try clear hk); (try clear hi)) | ((with_reducible refine gate_callee (f := 7) rfl ?_); refine goesL_ (some 27) rfl rfl Try.func7 (by kernel_rfl) rfl #[.string t106] rfl (by (try simp only [List.map_toArray, List.map_cons, List.map_nil]); first | done | rfl | (simp only [List.length_drop, List.length_take]; rfl)) ?_; (with_reducible refine (spec_Lines.calls kj3 t106 t107 _ A12.out).mono ?_); rintro e w15 ⟨v108, rfl, ho0, hb⟩; refine ⟨_, rfl, ?_⟩; have n0_ := Aside0.mk (Kd.R_lower ho0 (below_size (by repeat (first | (with_reducible first | exact HB.out | apply below_alloc | apply pw_below_drewN | apply below_drew1) | exact HB.out)))); have n1_ := Aside0.mk (below_step (by repeat (first | (with_reducible first | exact HB.out | apply below_alloc | apply pw_below_drewN | apply below_drew1) | exact HB.out)) hb); clear HB; have HO109 := n0_; have HB := n1_; clear n0_ n1_; (try clear hb); (try clear hb2); (try clear hk); (try clear hi); (try clear ho0)))
          go_loopg [7, 9] kj3 (fun kq v7 v9 w' => ∃ (x7_2 : ByteArray) (x9_2 : Int), v7 = .string x7_2 ∧ v9 = .int .i64 x9_2 ∧ Aside0 (laws_FnBlockTwice.l0 kq a1 (t105.toList == ([97] : List UInt8)) t106 x7_2 t107 x9_2 = some r) ∧ Aside0 (kq ≤ kj3) ∧ Aside0 (Kd.R Kd.string 9 w' w.heap.size (fun _ => True) v108 t107) ∧ Aside0 (Below w.heap.size w w'))
          case atStart => exact ⟨((⟨#[10]⟩ : ByteArray)), (0), (by first | rfl | (simp; done) | (simp [*]; done)), (by first | rfl | (simp; done) | (simp [*]; done)), H', ⟨Nat.le_refl _⟩, ⟨by (with_reducible repeat (first | apply Kd.R_alloc | apply Kd.R_drewN | apply Kd.R_drew)); exact HO109.out⟩, ⟨by repeat (first | (with_reducible first | exact HB.out | apply below_alloc | apply pw_below_drewN | apply below_drew1) | exact HB.out)⟩⟩
          case round =>
            clear H'
            try clear p2
            try clear c3
            try clear c3b0
            try clear c3b1
            try clear c4
            try clear c6
            try clear c7
            try clear c9
            try clear p2
            obtain ⟨x7_2, x9_2, rfl, rfl, HA, HK2, HO_8, HB⟩ := hrel
            cases gk with
            | zero => exact absurd HA.out (by simp [laws_FnBlockTwice.l0])
            | succ k2 =>
              have H := HA.out
              clear HA
              simp only [laws_FnBlockTwice.l0] at H
              by_cases c16 : x9_2 < (t107.length : Int)
              · rw [if_pos c16] at H
                have c16b0 : decide (x9_2 < (t107.length : Int)) = true := decide_eq_true c16
                clear c16
                have HC17 := Aside0.mk H
                clear H
                obtain ⟨Ao18, co18, eo18⟩ := Kd.R_slice HO_8.out
                subst eo18
                go_upto_region 12 with (fail)
                go_cut [51] (fun v51 wc => ∃ (kq : Nat) (x51_16 : Bool), v51 = .bool x51_16 ∧ Aside0 (laws_FnBlockTwice.j2 kq a1 (t105.toList == ([97] : List UInt8)) t106 x7_2 t107 x9_2 x51_16 = some r) ∧ Aside0 (kq ≤ k2) ∧ Aside0 (Kd.R Kd.string 9 wc w.heap.size (fun _ => True) (.slice Ao18 t107.length co18) t107) ∧ Aside0 (Below w.heap.size w wc))
                case first =>
                  have H := HC17.out
                  clear HC17
                  by_cases c19 : 0 ≤ x9_2
                  · rw [if_pos c19] at H
                    have c19b0 : decide (0 ≤ x9_2) = true := decide_eq_true c19
                    clear c19
                    (first | rw [c19b0] | (simp only [i64_w, i32_w]; rw [c19b0]) | skip)
                    by_cases c20 : (rdOf ByteArray.empty t107 x9_2).toList = ([] : List UInt8)
                    · rw [if_pos c20] at H
                      have c20b0 : ((rdOf ByteArray.empty t107 x9_2).toList == ([] : List UInt8)) = true := beq_iff_eq.mpr c20
                      have c20b1 : ((rdOf ByteArray.empty t107 x9_2).toList != ([] : List UInt8)) = false := bne_eq_false_iff_eq.mpr c20
                      clear c20
                      have H' := Aside0.mk H
                      clear H
                      have p111 : 0 ≤ (x9_2 : Int) := of_decide_eq_true (by first | (with_reducible assumption) | assumption)
                      have q111 : x9_2 < (t107.length : Int) := of_decide_eq_true (by first | (with_reducible assumption) | assumption)
                      obtain ⟨ad111, e111, hx111_0⟩ := Kd.at_string (Kd.R_reads' HO_8.out).2.2 x9_2 p111 q111
                      cases e111
                      replace p111 := eq_true p111
                      replace q111 := eq_true q111
                      go_wp2
                      go_meet
                      case rel => exact ⟨_, (true), (by first | rfl | (simp; done) | (simp [*]; done)), H', ⟨by have := HJ3.out; have := HK2.out; first | omega | exact Nat.le_refl _⟩, ⟨by (with_reducible repeat (first | apply Kd.R_alloc | apply Kd.R_drewN | apply Kd.R_drew)); exact HO_8.out⟩, ⟨by repeat (first | (with_reducible first | exact HB.out | apply below_alloc | apply pw_below_drewN | apply below_drew1) | exact HB.out)⟩⟩
                    · rw [if_neg c20] at H
                      have c20b0 : ((rdOf ByteArray.empty t107 x9_2).toList == ([] : List UInt8)) = false := beq_eq_false_iff_ne.mpr c20
                      have c20b1 : ((rdOf ByteArray.empty t107 x9_2).toList != ([] : List UInt8)) = true := bne_iff_ne.mpr c20
                      by_cases c21 : 1 + t106.size ≤ 9223372036854775807
                      · rw [if_pos c21] at H
                        have c21b0 := eq_true c21
                        have c21b1 : decide (1 + t106.size ≤ 9223372036854775807) = true := decide_eq_true c21
                        try have c21b2 : (9223372036854775807 < 1 + t106.size) = False := eq_false (Nat.not_lt.2 c21)
                        replace H := Option.bind_eq_some_iff.mp H
                        obtain ⟨t112, A220, H⟩ := H
                        replace H : (if t112 = true then ((spec_BlockValue.f k2 ((⟨#[10]⟩ : ByteArray) ++ t106)).bind fun t113 => (laws_FnBlockTwice.j2 k2 a1 (t105.toList == ([97] : List UInt8)) t106 x7_2 t107 x9_2 (t113.toList != t106.toList))) else (laws_FnBlockTwice.j2 k2 a1 (t105.toList == ([97] : List UInt8)) t106 x7_2 t107 x9_2 true)) = some r := H
                        have A22 := Aside0.mk A220
                        clear A220
                        by_cases c23 : t112 = true
                        · subst c23
                          have H1 : ((spec_BlockValue.f k2 ((⟨#[10]⟩ : ByteArray) ++ t106)).bind fun t113 => (laws_FnBlockTwice.j2 k2 a1 (t105.toList == ([97] : List UInt8)) t106 x7_2 t107 x9_2 (t113.toList != t106.toList))) = some r := by rw [if_pos rfl] at H; exact H
                          clear H
                          have H := H1
                          clear H1
                          replace H := Option.bind_eq_some_iff.mp H
                          obtain ⟨t113, A240, H⟩ := H
                          replace H : (laws_FnBlockTwice.j2 k2 a1 (t105.toList == ([97] : List UInt8)) t106 x7_2 t107 x9_2 (t113.toList != t106.toList)) = some r := H
                          have A24 := Aside0.mk A240
                          clear A240
                          have H' := Aside0.mk H
                          clear H
                          have p111 : 0 ≤ (x9_2 : Int) := of_decide_eq_true (by first | (with_reducible assumption) | assumption)
                          have q111 : x9_2 < (t107.length : Int) := of_decide_eq_true (by first | (with_reducible assumption) | assumption)
                          obtain ⟨ad111, e111, hx111_0⟩ := Kd.at_string (Kd.R_reads' HO_8.out).2.2 x9_2 p111 q111
                          cases e111
                          replace p111 := eq_true p111
                          replace q111 := eq_true q111
                          go_wp2_with (first | (go_at_call 5; (with_reducible refine (spec_BlockSure.calls k2 ((⟨#[10]⟩ : ByteArray) ++ t106) true _ A22.out).mono ?_); rintro e w25 ⟨rfl, hb⟩; have n0_ := Aside0.mk (Kd.R_below (by (with_reducible repeat (first | apply Kd.R_alloc | apply Kd.R_drewN | apply Kd.R_drew)); exact HO_8.out) hb); have n1_ := Aside0.mk (below_step (by repeat (first | (with_reducible first | exact HB.out | apply below_alloc | apply pw_below_drewN | apply below_drew1) | exact HB.out)) hb); clear HO_8; clear HB; have HO_8 := n0_; have HB := n1_; clear n0_ n1_; (try clear hb); (try clear hb2); (try clear hk); (try clear hi)) | (go_at_call 8; (with_reducible refine (spec_BlockValue.calls k2 ((⟨#[10]⟩ : ByteArray) ++ t106) t113 _ A24.out).mono ?_); rintro e w26 ⟨rfl, hb⟩; have n0_ := Aside0.mk (Kd.R_below (by (with_reducible repeat (first | apply Kd.R_alloc | apply Kd.R_drewN | apply Kd.R_drew)); exact HO_8.out) hb); have n1_ := Aside0.mk (below_step (by repeat (first | (with_reducible first | exact HB.out | apply below_alloc | apply pw_below_drewN | apply below_drew1) | exact HB.out)) hb); clear HO_8; clear HB; have HO_8 := n0_; have HB := n1_; clear n0_ n1_; (try clear hb); (try clear hb2); (try clear hk); (try clear hi)))
                          go_meet
                          case rel => exact ⟨_, ((t113.toList != t106.toList)), (by first | rfl | (simp; done) | (simp [*]; done)), H', ⟨by have := HJ3.out; have := HK2.out; first | omega | exact Nat.le_refl _⟩, ⟨by (with_reducible repeat (first | apply Kd.R_alloc | apply Kd.R_drewN | apply Kd.R_drew)); exact HO_8.out⟩, ⟨by repeat (first | (with_reducible first | exact HB.out | apply below_alloc | apply pw_below_drewN | apply below_drew1) | exact HB.out)⟩⟩
                        · replace c23 := Bool.eq_false_iff.mpr c23
                          subst c23
                          have H1 : (laws_FnBlockTwice.j2 k2 a1 (t105.toList == ([97] : List UInt8)) t106 x7_2 t107 x9_2 true) = some r := by rw [if_neg (show ¬ (false = true) by decide)] at H; exact H
                          clear H
                          have H := H1
                          clear H1
                          have H' := Aside0.mk H
                          clear H
                          have p111 : 0 ≤ (x9_2 : Int) := of_decide_eq_true (by first | (with_reducible assumption) | assumption)
                          have q111 : x9_2 < (t107.length : Int) := of_decide_eq_true (by first | (with_reducible assumption) | assumption)
                          obtain ⟨ad111, e111, hx111_0⟩ := Kd.at_string (Kd.R_reads' HO_8.out).2.2 x9_2 p111 q111
                          cases e111
                          replace p111 := eq_true p111
                          replace q111 := eq_true q111
                          go_wp2_with (first | (go_at_call 5; (with_reducible refine (spec_BlockSure.calls k2 ((⟨#[10]⟩ : ByteArray) ++ t106) false _ A22.out).mono ?_); rintro e w27 ⟨rfl, hb⟩; have n0_ := Aside0.mk (Kd.R_below (by (with_reducible repeat (first | apply Kd.R_alloc | apply Kd.R_drewN | apply Kd.R_drew)); exact HO_8.out) hb); have n1_ := Aside0.mk (below_step (by repeat (first | (with_reducible first | exact HB.out | apply below_alloc | apply pw_below_drewN | apply below_drew1) | exact HB.out)) hb); clear HO_8; clear HB; have HO_8 := n0_; have HB := n1_; clear n0_ n1_; (try clear hb); (try clear hb2); (try clear hk); (try clear hi)))
                          go_meet
                          case rel => exact ⟨_, (true), (by first | rfl | (simp; done) | (simp [*]; done)), H', ⟨by have := HJ3.out; have := HK2.out; first | omega | exact Nat.le_refl _⟩, ⟨by (with_reducible repeat (first | apply Kd.R_alloc | apply Kd.R_drewN | apply Kd.R_drew)); exact HO_8.out⟩, ⟨by repeat (first | (with_reducible first | exact HB.out | apply below_alloc | apply pw_below_drewN | apply below_drew1) | exact HB.out)⟩⟩
                      · rw [if_neg c21] at H
                        exact absurd H (by simp)
                  · rw [if_neg c19] at H
                    exact absurd H (by simp)
                case rest =>
                  clear HC17
                  try clear c1
                  try clear p1
                  try clear q1
                  try clear hx1
                  try clear c2
                  try clear p2
                  try clear c3
                  try clear c3b0
                  try clear c3b1
                  try clear c4
                  try clear c6
                  try clear c7
                  try clear c9
                  try clear p11
                  try clear q11
                  try clear hx11
                  try clear c16
                  try clear c16b0
                  try clear c19
                  try clear c19b0
                  try clear c20
                  try clear c20b0
                  try clear c20b1
                  try clear c21
                  try clear c21b0
                  try clear c21b1
                  try clear c21b2
                  try clear c23
                  try clear hx111_0
                  try clear p111
                  try clear p2
                  try clear q111
                  obtain ⟨kq, x51_16, rfl, HA, HJ16, HO_8, HB⟩ := hcut
                  cases kq with
                  | zero => exact absurd HA.out (by simp [laws_FnBlockTwice.j2])
                  | succ kj16 =>
                    have H := HA.out
                    clear HA
                    simp only [laws_FnBlockTwice.j2] at H
                    by_cases c28 : x51_16 = true
                    · subst c28
                      have H1 : (some (t105.toList == ([97] : List UInt8))) = some r := by rw [if_pos rfl] at H; exact H
                      clear H
                      have H := H1
                      clear H1
                      obtain rfl := Option.some.inj H
                      go_wp2
                      go_ret
                      exact ⟨by first | rfl | (simp [errW_none, errW_some] <;> rfl) | (simp [*, errW_none, errW_some] <;> rfl), by repeat (first | (with_reducible first | exact HB.out | apply below_alloc | apply pw_below_drewN | apply below_drew1) | exact HB.out)⟩
                    · replace c28 := Bool.eq_false_iff.mpr c28
                      subst c28
                      have H1 : (laws_FnBlockTwice.l1 kj16 a1 (t105.toList == ([97] : List UInt8)) t106 x7_2 t107 x9_2 0) = some r := by rw [if_neg (show ¬ (false = true) by decide)] at H; exact H
                      clear H
                      have H := H1
                      clear H1
                      have H' := Aside0.mk H
                      clear H
                      go_wp2
                      go_loopg [7, 10] kj16 (fun kq v7 v10 w' => ∃ (x7_4 : ByteArray) (x10_4 : Int), v7 = .string x7_4 ∧ v10 = .int .i64 x10_4 ∧ Aside0 (laws_FnBlockTwice.l1 kq a1 (t105.toList == ([97] : List UInt8)) t106 x7_4 t107 x9_2 x10_4 = some r) ∧ Aside0 (kq ≤ kj16) ∧ Aside0 (Kd.R Kd.string 9 w' w.heap.size (fun _ => True) (.slice Ao18 t107.length co18) t107) ∧ Aside0 (Below w.heap.size w w'))
                      case atStart => exact ⟨(x7_2), (0), (by first | rfl | (simp; done) | (simp [*]; done)), (by first | rfl | (simp; done) | (simp [*]; done)), H', ⟨Nat.le_refl _⟩, ⟨by (with_reducible repeat (first | apply Kd.R_alloc | apply Kd.R_drewN | apply Kd.R_drew)); exact HO_8.out⟩, ⟨by repeat (first | (with_reducible first | exact HB.out | apply below_alloc | apply pw_below_drewN | apply below_drew1) | exact HB.out)⟩⟩
                      case round =>
                        clear H'
                        try clear c1
                        try clear p1
                        try clear q1
                        try clear hx1
                        try clear c2
                        try clear p2
                        try clear c3
                        try clear c3b0
                        try clear c3b1
                        try clear c4
                        try clear c6
                        try clear c7
                        try clear c9
                        try clear p11
                        try clear q11
                        try clear hx11
                        try clear c16
                        try clear c16b0
                        try clear c19
                        try clear c19b0
                        try clear c20
                        try clear c20b0
                        try clear c20b1
                        try clear c21
                        try clear c21b0
                        try clear c21b1
                        try clear c21b2
                        try clear c23
                        try clear c28
                        try clear hx111_0
                        try clear p1
                        try clear p11
                        try clear p111
                        try clear p2
                        try clear q1
                        try clear q11
                        try clear q111
                        obtain ⟨x7_4, x10_4, rfl, rfl, HA, HK4, HO_8, HB⟩ := hrel
                        cases gk with
                        | zero => exact absurd HA.out (by simp [laws_FnBlockTwice.l1])
                        | succ k4 =>
                          have H := HA.out
                          clear HA
                          simp only [laws_FnBlockTwice.l1] at H
                          by_cases c29 : x10_4 < (Int.tmod (wrap64 (a1)) 21)
                          · rw [if_pos c29] at H
                            have c29b0 : decide (x10_4 < (Int.tmod (wrap64 (a1)) 21)) = true := decide_eq_true c29
                            clear c29
                            by_cases c30 : x7_4.size + 1 ≤ 9223372036854775807
                            · rw [if_pos c30] at H
                              have c30b0 := eq_true c30
                              have c30b1 : decide (x7_4.size + 1 ≤ 9223372036854775807) = true := decide_eq_true c30
                              try have c30b2 : (9223372036854775807 < x7_4.size + 1) = False := eq_false (Nat.not_lt.2 c30)
                              have H' := Aside0.mk H
                              clear H
                              go_wp2
                              go_roundg k4
                              case measure => have := HJ3.out; have := HK2.out; have := HJ16.out; have := HK4.out; omega
                              case rel => exact ⟨(x7_4 ++ (⟨#[32]⟩ : ByteArray)), (wrap64 (x10_4 + 1)), (by first | rfl | (simp; done) | (simp [*]; done)), (by first | rfl | (simp; done) | (simp [*]; done)), H', ⟨by have := HJ3.out; have := HK2.out; have := HJ16.out; have := HK4.out; omega⟩, ⟨by (with_reducible repeat (first | apply Kd.R_alloc | apply Kd.R_drewN | apply Kd.R_drew)); exact HO_8.out⟩, ⟨by repeat (first | (with_reducible first | exact HB.out | apply below_alloc | apply pw_below_drewN | apply below_drew1) | exact HB.out)⟩⟩
                            · rw [if_neg c30] at H
                              exact absurd H (by simp)
                          · rw [if_neg c29] at H
                            have c29b0 : decide (x10_4 < (Int.tmod (wrap64 (a1)) 21)) = false := decide_eq_false c29
                            clear c29
                            by_cases c31 : 0 ≤ x9_2
                            · rw [if_pos c31] at H
                              have c31b0 : decide (0 ≤ x9_2) = true := decide_eq_true c31
                              clear c31
                              by_cases c32 : x9_2 < (t107.length : Int)
                              · rw [if_pos c32] at H
                                have c32b0 : decide (x9_2 < (t107.length : Int)) = true := decide_eq_true c32
                                clear c32
                                by_cases c33 : (rdOf ByteArray.empty t107 x9_2).size + 1 ≤ 9223372036854775807
                                · rw [if_pos c33] at H
                                  have c33b0 := eq_true c33
                                  have c33b1 : decide ((rdOf ByteArray.empty t107 x9_2).size + 1 ≤ 9223372036854775807) = true := decide_eq_true c33
                                  try have c33b2 : (9223372036854775807 < (rdOf ByteArray.empty t107 x9_2).size + 1) = False := eq_false (Nat.not_lt.2 c33)
                                  by_cases c34 : x7_4.size + ((rdOf ByteArray.empty t107 x9_2) ++ (⟨#[10]⟩ : ByteArray)).size ≤ 9223372036854775807
                                  · rw [if_pos c34] at H
                                    have c34b0 := eq_true c34
                                    have c34b1 : decide (x7_4.size + ((rdOf ByteArray.empty t107 x9_2) ++ (⟨#[10]⟩ : ByteArray)).size ≤ 9223372036854775807) = true := decide_eq_true c34
                                    try have c34b2 : (9223372036854775807 < x7_4.size + ((rdOf ByteArray.empty t107 x9_2) ++ (⟨#[10]⟩ : ByteArray)).size) = False := eq_false (Nat.not_lt.2 c34)
                                    have H' := Aside0.mk H
                                    clear H
                                    have p114 : 0 ≤ (x9_2 : Int) := of_decide_eq_true (by first | (with_reducible assumption) | assumption)
                                    have q114 : x9_2 < (t107.length : Int) := of_decide_eq_true (by first | (with_reducible assumption) | assumption)
                                    obtain ⟨ad114, e114, hx114_0⟩ := Kd.at_string (Kd.R_reads' HO_8.out).2.2 x9_2 p114 q114
                                    cases e114
                                    replace p114 := eq_true p114
                                    replace q114 := eq_true q114
                                    go_wp2
                                    go_roundg k4
                                    case measure => have := HJ3.out; have := HK2.out; have := HJ16.out; have := HK4.out; omega
                                    case rel => exact ⟨(x7_4 ++ ((rdOf ByteArray.empty t107 x9_2) ++ (⟨#[10]⟩ : ByteArray))), (wrap64 (x9_2 + 1)), (by first | rfl | (simp; done) | (simp [*]; done)), (by first | rfl | (simp; done) | (simp [*]; done)), H', ⟨by have := HJ3.out; have := HK2.out; have := HJ16.out; have := HK4.out; omega⟩, ⟨by (with_reducible repeat (first | apply Kd.R_alloc | apply Kd.R_drewN | apply Kd.R_drew)); exact HO_8.out⟩, ⟨by repeat (first | (with_reducible first | exact HB.out | apply below_alloc | apply pw_below_drewN | apply below_drew1) | exact HB.out)⟩⟩
                                  · rw [if_neg c34] at H
                                    exact absurd H (by simp)
                                · rw [if_neg c33] at H
                                  exact absurd H (by simp)
                              · rw [if_neg c32] at H
                                exact absurd H (by simp)
                            · rw [if_neg c31] at H
                              exact absurd H (by simp)
              · rw [if_neg c16] at H
                have c16b0 : decide (x9_2 < (t107.length : Int)) = false := decide_eq_false c16
                clear c16
                by_cases c35 : (t105.toList == ([97] : List UInt8)) = true
                · rw [if_pos c35] at H
                  have c35b0 : (t105.toList == ([97] : List UInt8)) = true := c35
                  (try (have c35b1 : decide (t105.toList = ([97] : List UInt8)) = true := by simpa using c35))
                  (try (have c35b2 : (t105.toList == ([97] : List UInt8)) = true := by simpa using c35))
                  clear c35
                  replace H := Option.bind_eq_some_iff.mp H
                  obtain ⟨t110, A360, H⟩ := H
                  replace H : (some (t110.toList == t106.toList)) = some r := H
                  have A36 := Aside0.mk A360
                  clear A360
                  obtain rfl := Option.some.inj H
                  obtain ⟨Ao37, co37, eo37⟩ := Kd.R_slice HO_8.out
                  subst eo37
                  go_wp2_with (first | (go_at_call 6; (with_reducible refine (impl_BlockValue.calls k2 x7_2 t110 _ A36.out).mono ?_); rintro e w38 ⟨rfl, hb⟩; have n0_ := Aside0.mk (Kd.R_below (by (with_reducible repeat (first | apply Kd.R_alloc | apply Kd.R_drewN | apply Kd.R_drew)); exact HO_8.out) hb); have n1_ := Aside0.mk (below_step (by repeat (first | (with_reducible first | exact HB.out | apply below_alloc | apply pw_below_drewN | apply below_drew1) | exact HB.out)) hb); clear HO_8; clear HB; have HO_8 := n0_; have HB := n1_; clear n0_ n1_; (try clear hb); (try clear hb2); (try clear hk); (try clear hi)))
                  go_ret
                  exact ⟨by first | rfl | (simp [errW_none, errW_some] <;> rfl) | (simp [*, errW_none, errW_some] <;> rfl), by repeat (first | (with_reducible first | exact HB.out | apply below_alloc | apply pw_below_drewN | apply below_drew1) | exact HB.out)⟩
                · rw [if_neg c35] at H
                  have c35b0 : (t105.toList == ([97] : List UInt8)) = false := by simpa using c35
                  (try (have c35b1 : decide (t105.toList = ([97] : List UInt8)) = false := by simpa using c35))
                  (try (have c35b2 : (t105.toList == ([97] : List UInt8)) = false := by simpa using c35))
                  (try (have c35b3 : ¬ (t105.toList = ([97] : List UInt8)) := by simpa using c35))
                  clear c35
                  obtain rfl := Option.some.inj H
                  obtain ⟨Ao39, co39, eo39⟩ := Kd.R_slice HO_8.out
                  subst eo39
                  go_wp2
                  go_ret
                  exact ⟨by first | rfl | (simp [errW_none, errW_some] <;> rfl) | (simp [*, errW_none, errW_some] <;> rfl), by repeat (first | (with_reducible first | exact HB.out | apply below_alloc | apply pw_below_drewN | apply below_drew1) | exact HB.out)⟩

/-- THE ONE PURE STATEMENT of laws_FnBlockTwice: yours. -/
def laws_FnBlockTwice.Pure : Prop := ∀ (a0 : ByteArray) (a1 : Int), a0.size ≤ 140737488351232 → (Lit.int .u8 a1).wf = true → ∃ k, laws_FnBlockTwice.f k a0 a1 = some true
theorem laws_FnBlockTwice.walk (P : laws_FnBlockTwice.Pure) (a0 : ByteArray) (a1 : Int) (w : World) (w0 : a0.size ≤ 140737488351232) (w1 : (Lit.int .u8 a1).wf = true) :
    Calls Try.prog 3 #[.string a0, .int .u8 a1] w fun e w' => e = .returned (.bool true) ∧ Below w.heap.size w w' := by
  obtain ⟨k, h⟩ := P a0 a1 w0 w1
  refine (laws_FnBlockTwice.calls k a0 a1 true w h).mono ?_
  rintro e w' ⟨rfl, hd⟩
  exact ⟨rfl, hd⟩

end Go.Proofs.Ytknbpibjjhcdiad.PFnBlockTwice.Z.L
