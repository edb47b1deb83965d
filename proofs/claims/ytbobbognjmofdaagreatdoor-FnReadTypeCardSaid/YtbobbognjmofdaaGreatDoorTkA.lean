/-
  FnTokens: the reference's run over a text, and the law's own small functions, walked.
-/
import Derived.Test.YtbobbognjmofdaaGreatDoorTkP
namespace Go.Proofs.YtbobbognjmofdaaGreatDoor.Lex
open Go.RowKit Go.Proofs.YtbobbognjmofdaaGreatDoorW.PrintWords Go.Proofs.YtbobbognjmofdaaGreatDoorW.PrintLast Go.Proofs.YtbobbognjmofdaaGreatDoorW.PrintMore
open Go.Proofs.YtbobbognjmofdaaGreatDoor.Ptext
set_option linter.unusedVariables false
set_option linter.unusedSimpArgs false
theorem Lx.row {W : World} {base g : Nat} {x : LS} (h : Lx W base g x) : ∃ v,
    W.cell? ⟨g, 2, none⟩ = some v ∧ Kd.R k24 24 W base (fun _ => True) v x.out := by
  obtain ⟨v, h, -, hR⟩ := h
  exact ⟨v, by simp [World.cell?, h], hR⟩
set_option maxHeartbeats 1000000 in
theorem specLexed_any (s : ByteArray) (w : World) (hs : s.size ≤ 2000) :
    Calls Tryz.prog 39 #[.string s] w fun e w' => (∃ v, e = .returned (.tuple #[v, .bool (!(lexR s).2.1), .bool (!(lexR s).2.2)]) ∧ Kd.R k24 24 w' w.heap.size (fun _ => True) v (lexR s).1) ∧ Below w.heap.size w w' := by
  have HPT := Aside0.mk (fun p h1 h2 => pt_tells s (by omega) p h1 h2)
  obtain ⟨R, hR⟩ : ∃ R, R = lexR s := ⟨_, rfl⟩
  rw [← hR]
  have HR := Aside0.mk hR
  clear hR
  go_enter Tryz.func39, Tryz.ntmps39
  go_wp2_with fail
  go_loopg [9] (s.size + 1 + 1) (fun kq v9 wr => ∃ (x : LS), Aside0 (x.s = s ∧ Run s R kq x ∧ Lx wr w.heap.size w.heap.size x ∧ Below w.heap.size w wr))
  case atStart =>
    exact ⟨⟨s, 0, [], false, false⟩, ⟨rfl, .run _ 0 false [] (by omega) (by omega) (by omega) (by simp) HR.out.symm, Lx.new _ _ _ _ (Nat.le_refl _), below_alloc (Below.refl _ _) _⟩⟩
  case round =>
    obtain ⟨x, HA⟩ := hrel
    have HL := Aside0.mk HA.out.2.2.1
    have HB := Aside0.mk HA.out.2.2.2
    have HSt := Aside0.mk HA.out.2.1
    clear HA
    have hwr : w.heap.size ≤ wr.heap.size := HB.out.size
    obtain ⟨v0, c0, c1, c2', c3, c4, fz⟩ := HL.out.cells
    clear c2'
    obtain ⟨v, c2, hrow⟩ := HL.out.row
    have HRow := Aside0.mk hrow
    clear hrow
    rcases HSt.out with ⟨j, q, u, l, hq0, hq1, hq2, hl, hq3⟩ | ⟨k, q, u, l, hn⟩
    · by_cases hlt : q < (s.size : Int)
      · have hltb : decide (q < (s.size : Int)) = true := decide_eq_true hlt
        have HST := Aside0.mk (run_step (R := R) (fun p h1 h2 => (HPT.out p h1 h2).2) hq0 hlt hq2 hl hq3)
        have HSZ := Aside0.mk hl
        clear hl hq3 hq2
        go_wp2_with fail
        refine (token_any w.heap.size w.heap.size ⟨s, q, l, false, u⟩ wr HL.out hwr hq0 hlt hs (by have := HSZ.out; simp; omega) HPT.out).mono ?_
        rintro e w2 ⟨rfl, hX2, hB2⟩
        have HX2 := Aside0.mk hX2
        have HB2 := Aside0.mk (HB.out.trans hB2)
        clear hX2 hB2
        go_wp2_with fail
        go_roundg j
        case measure => omega
        case rel => exact ⟨_, ⟨by cases stp s q u <;> rfl, HST.out, HX2.out, HB2.out⟩⟩
      · have hltb : decide (q < (s.size : Int)) = false := decide_eq_false hlt
        have hfin : R = (l, false, u) := by
          rw [← hq3]
          cases j with
          | zero => rfl
          | succ j => rw [lexd, if_pos (by omega)]
        subst hfin
        clear hq3 hl hq2
        go_wp2_with fail
        go_region
        go_wp2_with fail
        go_ret3
        exact ⟨⟨_, rfl, Kd.R_below HRow.out (pw_below_drewN (Below.refl _ _) 1)⟩, pw_below_drewN HB.out 1⟩
    · subst hn
      go_wp2_with fail
      go_region
      go_wp2_with fail
      go_ret3
      exact ⟨⟨_, rfl, Kd.R_below HRow.out (pw_below_drewN (Below.refl _ _) 1)⟩, pw_below_drewN HB.out 1⟩
set_option maxHeartbeats 400000 in
theorem specLex_any (s : ByteArray) (w : World) (hs : s.size ≤ 2000) (l : List S24) (b u : Bool) (hR : lexR s = (l, b, u)) :
    Calls Tryz.prog 17 #[.string s] w fun e w' => (∃ v, e = .returned (.tuple #[v, .bool (!b), .bool (!u)]) ∧ Kd.R k24 24 w' w.heap.size (fun _ => True) v (if b = true then [] else l)) ∧ Below w.heap.size w w' := by
  have hL := specLexed_any s w hs
  rw [hR] at hL
  have HL := Aside0.mk hL
  clear hL hR
  go_enter Tryz.func17, Tryz.ntmps17
  go_wp2_with fail
  refine HL.out.mono ?_
  rintro e w1 ⟨⟨v, rfl, hRR⟩, hb⟩
  have HRR := Aside0.mk hRR
  have HB := Aside0.mk hb
  clear hRR hb
  cases b with
  | true =>
    go_wp2_with fail
    go_ret3
    exact ⟨⟨_, rfl, Kd.R_nil _ _ _ _ _⟩, HB.out⟩
  | false =>
    go_wp2_with fail
    go_ret3
    exact ⟨⟨_, rfl, HRR.out⟩, HB.out⟩
/-- A bool, whichever. -/
def SomeBool (e : Ending) : Prop := ∃ b, e = .returned (.bool b)
set_option maxRecDepth 4000 in
set_option maxHeartbeats 400000 in
theorem ascii9_any (s : ByteArray) (w : World) (hs : s.size ≤ 2000) :
    Calls Tryz.prog 20 #[.string s] w fun e w' => SomeBool e ∧ w = w' := by
  go_enter Tryz.func20, Tryz.ntmps20
  go_wp2_with fail
  go_loop [3] (fun i => ∃ k : Nat, k ≤ s.size ∧ i = .int .i64 k) (fun i => s.size - (intOf i).toNat)
  case atStart => exact ⟨0, Nat.zero_le _, rfl⟩
  case round =>
    obtain ⟨k, hk, rfl⟩ := hrel
    by_cases hlt : k < s.size
    · go_wp2_with fail
      all_goals
        first
        | (go_ret
           exact ⟨⟨_, rfl⟩, rfl⟩)
        | (go_round
           case rel => exact ⟨k + 1, by omega, by go_num⟩
           case measure => simp [intOf]; omega)
    · go_wp2_with fail
      go_ret
      exact ⟨⟨_, rfl⟩, rfl⟩
set_option maxHeartbeats 1000000 in
theorem same9_any (l : List S24) (A1 A2 : Option Addr) (c1 c2 : Nat) (b : Bool) (w : World) (h1 : Kd.C k24 w A1 l.length l) (h2 : Kd.C k24 w A2 l.length l) (hl : l.length ≤ 3000) :
    Calls Tryz.prog 19 #[.slice A1 l.length c1, .slice A2 l.length c2, .bool b] w fun e w' => e = .returned (.bool true) ∧ ∃ m, w.drewN m = w' := by
  have H1 := Aside0.mk h1
  have H2 := Aside0.mk h2
  clear h1 h2
  go_enter Tryz.func19, Tryz.ntmps19
  go_wp2_with fail
  go_loopw [7] (fun v7 wr => ∃ (i : Int) (m : Nat), 0 ≤ i ∧ i ≤ l.length ∧ v7 = .int .i64 i ∧ wr = w.drewN m) (fun v7 _ => l.length - (intOf v7).toNat)
  case atStart => exact ⟨0, 0, Int.le_refl _, by omega, rfl, rfl⟩
  case round =>
    obtain ⟨i, m, hi0, hi1, rfl, rfl⟩ := hrel
    by_cases hlt : i < (l.length : Int)
    · have hltb : decide (i < (l.length : Int)) = true := decide_eq_true hlt
      obtain ⟨a1, rfl, p0, p1, p2, p3⟩ := at_T24 H1.out i hi0 hlt
      obtain ⟨a2, rfl, q0, q1, q2, q3⟩ := at_T24 H2.out i hi0 hlt
      obtain ⟨t, ht⟩ : ∃ t, t = rd_T24 l i := ⟨_, rfl⟩
      rw [← ht] at p0 p1 p2 p3 q0 q1 q2 q3
      clear ht
      obtain ⟨t0, t1, t2, t3⟩ := t
      have k0 : (t0 != t0) = false := by simp
      have k1 : (t1.toList != t1.toList) = false := by simp
      have k2 : (t2 != t2) = false := by simp
      have k3 : (t3 != t3) = false := by simp
      have hin : i.toNat < l.length := by omega
      cases b
      all_goals
        go_wp2_with fail
        go_quiet (fail)
        go_wp2_with fail
        go_roundw
        case rel => exact ⟨i + 1, _, by omega, by omega, rfl, by first | rfl | (rw [World.drewN_drewN])⟩
        case measure => simp [intOf]; omega
    · have hltb : decide (i < (l.length : Int)) = false := decide_eq_false hlt
      go_wp2_with fail
      go_ret
      exact ⟨rfl, m, rfl⟩
end Go.Proofs.YtbobbognjmofdaaGreatDoor.Lex
