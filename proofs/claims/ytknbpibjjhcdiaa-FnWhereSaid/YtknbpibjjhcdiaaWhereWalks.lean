/-
  The line and the column of a place in a text of ASCII, as the package tells them, are those of the reference: for every text of at most 2000 bytes and every place in it.
  This text: the walks of GetLocation, impl.Where and the law.
-/
import Derived.Test.YtknbpibjjhcdiaaWherePlain
namespace Go.Proofs.Ytknbpibjjhcdiaa.PFnWhere
open Go.RowKit Go.Proofs.YtknbpibjjhcdiaaW.PrintWords Go.Proofs.YtknbpibjjhcdiaaW.PrintLast Go.Proofs.YtknbpibjjhcdiaaW.PrintMore
set_option linter.unusedVariables false
set_option linter.unusedSimpArgs false

/-- Cells of an elder world. -/
theorem old_cell {w w1 : World} (hb : Below w.heap.size w w1) {a : Addr} {v : Value} (hc : w.cell? a = some v) : w1.cell? a = some v := pw_cell_below hb hc

theorem box2 {W : World} {b : Nat} {u0 u1 : Value} (x y : Value) (h0 : W.cell? ⟨b, 0, none⟩ = some u0) (h1 : W.cell? ⟨b, 1, none⟩ = some u1) :
    ((W.setCell ⟨b, 0, none⟩ x).setCell ⟨b, 1, none⟩ y).cell? ⟨b, 0, none⟩ = some x ∧ ((W.setCell ⟨b, 0, none⟩ x).setCell ⟨b, 1, none⟩ y).cell? ⟨b, 1, none⟩ = some y := by
  have n0 : (⟨b, 0, none⟩ : Addr) ≠ ⟨b, 1, none⟩ := fun h => by injection h with _ h; cases h
  have n1 : (⟨b, 1, none⟩ : Addr) ≠ ⟨b, 0, none⟩ := fun h => n0 h.symm
  have e0 : (W.setCell ⟨b, 0, none⟩ x).cell? ⟨b, 1, none⟩ = some u1 := (World.cell?_setCell_other _ _ _ _ n0).trans h1
  exact ⟨(World.cell?_setCell_other _ _ _ _ n1).trans (World.cell?_setCell_same _ _ _ h0), World.cell?_setCell_same _ _ _ e0⟩

set_option maxHeartbeats 400000 in
theorem getLocation_any (k : Nat) (g : Nat) (A : Option Addr) (c : Nat) (l : List Int) (r : List (List Int)) (pos line col : Int) (w : World)
   (hB : w.cell? ⟨g, 0, none⟩ = some (.slice A l.length c)) (hr : Kd.C (Kd.int .u8) w A l.length l) (hc : l.length ≤ c) (hm : l.length ≤ 2000) (hrl : r.length ≤ 2000) (hp0 : 0 ≤ pos) (hp : pos ≤ 2000)
   (hk : location_zzLineEnds.f k l = some r) (hin : ∀ m ∈ r, m.length = 2 ∧ 0 ≤ rd m 0 ∧ rd m 0 < rd m 1 ∧ rd m 1 ≤ l.length) (hres : loc pos r 1 (pos + 1) = (line, col)) :
    Calls Try.prog 7 #[.pointer (some ⟨g, 0, none⟩), .int .i64 pos] w fun e w' => e = .returned (.agg #[.int .i64 line, .int .i64 col]) ∧ Below w.heap.size w w' := by
  have HB := Aside0.mk hB
  have HR := Aside0.mk hr
  have HK := Aside0.mk hk
  have HIN := Aside0.mk hin
  have HRES := Aside0.mk hres
  have hB1 : ∀ o, (w.alloc o).cell? ⟨g, 0, none⟩ = some (.slice A l.length c) := fun o => old_cell (below_alloc (Below.refl _ _) o) hB
  have hB2 : ∀ o o', ((w.alloc o).alloc o').cell? ⟨g, 0, none⟩ = some (.slice A l.length c) := fun o o' => old_cell (below_alloc (below_alloc (Below.refl _ _) o) o') hB
  clear hB hr hk hin hres
  have hrr : ∀ o o', Kd.C (Kd.int .u8) ((w.alloc o).alloc o') A l.length l := fun o o' => Kd.C_below HR.out (below_alloc (below_alloc (Below.refl _ _) o) o')
  have HRR := Aside0.mk hrr
  clear hrr
  go_enter Try.func7, Try.ntmps7
  go_wp2_with fail
  refine (location_zzLineEnds.calls k A c l r _ (HRR.out _ _) hc HK.out).mono ?_
  rintro e w1 ⟨v0, rfl, hS, hb1⟩
  obtain ⟨A1, c1, rfl, hc1, hC1⟩ := Kd.R_reads (Kd.S_R hS)
  have HC1 := Aside0.mk hC1
  have hbx0 : w1.cell? ⟨w.heap.size, 0, none⟩ = some (.int .i64 0) := by
    rw [hb1.cell (p := ⟨w.heap.size, 0, none⟩) (by simp; omega)]
    go_simp
  have hbx1 : w1.cell? ⟨w.heap.size, 1, none⟩ = some (.int .i64 0) := by
    rw [hb1.cell (p := ⟨w.heap.size, 1, none⟩) (by simp; omega)]
    go_simp
  have hfx0 : w1.frozen? ⟨w.heap.size, 0, none⟩ = false := by
    rw [hb1.frozen (p := ⟨w.heap.size, 0, none⟩) (by simp; omega)]
    go_simp
  have hfx1 : w1.frozen? ⟨w.heap.size, 1, none⟩ = false := by
    rw [hb1.frozen (p := ⟨w.heap.size, 1, none⟩) (by simp; omega)]
    go_simp
  have hz : w.heap.size < w1.heap.size := by have := hb1.size; simp at this; omega
  have hb0 : Below w.heap.size w w1 := below_alloc (below_alloc (Below.refl _ _) _) _ |>.trans (hb1.mono (by simp; omega))
  have HB1 := Aside0.mk hb0
  have hB3 : w1.cell? ⟨g, 0, none⟩ = some (.slice A l.length c) := old_cell hb0 HB.out
  clear hS hb1 hC1 hB1 hB2 hb0
  go_wp2_with fail
  go_loopg [6, 7, 26] r.length (fun kq v6 v7 v26 wr => ∃ (i : Nat) (ln co : Int), v6 = .int .i64 ln ∧ v7 = .int .i64 co ∧ v26 = .int .i64 (i : Int) ∧ Aside0 (i ≤ r.length ∧ kq = r.length - i ∧ 0 ≤ ln ∧ ln ≤ i + 1 ∧ loc pos (r.drop i) ln co = (line, col)) ∧ Drawn0 w1 wr)
  case atStart => exact ⟨0, 1, pos + 1, rfl, rfl, rfl, ⟨by omega, by omega, by omega, by omega, HRES.out⟩, Drawn0.refl _⟩
  case round =>
    obtain ⟨i, ln, co, rfl, rfl, rfl, HA, ⟨m, rfl⟩⟩ := hrel
    have hlen : r.length ≤ 9223372036854775807 := by omega
    have hln0 : 0 ≤ ln := HA.out.2.2.1
    have hln1 : ln ≤ 2001 := by have := HA.out.1; have := HA.out.2.2.2.1; omega
    have hiz : (i : Int) ≤ 2000 := by have := HA.out.1; omega
    by_cases hlt : i < r.length
    · have hltz : decide ((i : Int) < (r.length : Int)) = true := decide_eq_true (by omega)
      have hi0 : 0 ≤ (i : Int) := by omega
      have hi1 : (i : Int) < (r.length : Int) := by omega
      obtain ⟨ad, A0, c0, rfl, hcell, hc0, hC0⟩ := at_L1 HC1.out (i : Int) hi0 hi1
      obtain ⟨mi, hmi⟩ : ∃ mi, mi = rd_L1 r (i : Int) := ⟨_, rfl⟩
      rw [← hmi] at hcell hc0 hC0
      rw [Int.toNat_natCast] at hcell
      have hmem : mi ∈ r := by
        rw [hmi]; unfold rd_L1
        rw [Int.toNat_natCast, List.getD_eq_getElem?_getD, List.getElem?_eq_getElem hlt]
        exact List.getElem_mem hlt
      have hdrop : r.drop i = mi :: r.drop (i + 1) := by
        rw [hmi]; unfold rd_L1
        rw [Int.toNat_natCast, List.getD_eq_getElem?_getD, List.getElem?_eq_getElem hlt]
        exact List.drop_eq_getElem_cons hlt
      obtain ⟨hm2, hm0, hm01, hm1⟩ := HIN.out mi hmem
      obtain ⟨ad0, rfl, hx0⟩ := Kd.at_int hC0 0 (by omega) (by omega)
      obtain ⟨ad1, e1, hx1⟩ := Kd.at_int hC0 1 (by omega) (by omega)
      cases e1
      have hx0' : w1.cell? ad0 = some (.int .i64 (rd mi 0)) := by rw [show ad0.add (Int.toNat 0) = ad0 from rfl] at hx0; exact hx0
      have hx1' : w1.cell? ⟨ad0.block, ad0.off + 1, none⟩ = some (.int .i64 (rd mi 1)) := hx1
      have hne : ¬ (c = (rd mi 0).toNat) := by omega
      have HD := Aside0.mk hdrop
      clear hdrop hmi hmem hC0 hc0 hx0 hx1
      rw [hm2] at hcell
      clear hm2
      have hlc : (l.length : Int) ≤ 2000 := by omega
      have hlc' : (l.length : Int) ≤ (c : Int) := by omega
      obtain ⟨x0, hx0e⟩ : ∃ x0, x0 = rd mi 0 := ⟨_, rfl⟩
      obtain ⟨x1, hx1e⟩ : ∃ x1, x1 = rd mi 1 := ⟨_, rfl⟩
      rw [← hx0e] at hx0' hm0 hm01 hne
      rw [← hx1e] at hx1' hm01 hm1
      have E0 := Aside0.mk hx0e
      have E1 := Aside0.mk hx1e
      clear hx0e hx1e
      by_cases hb : x0 < pos
      · have hb1 : decide (x0 < pos) = true := decide_eq_true hb
        go_wp2_with fail
        go_quiet (fail)
        go_wp2_with fail
        all_goals
          go_roundg (r.length - (i + 1))
          case measure => have := HA.out; omega
          case rel =>
            refine ⟨i + 1, ln + 1, pos + 1 - x1, rfl, ?_, by go_num, ⟨by omega, rfl, by omega, by have := HA.out; omega, ?_⟩, by repeat (first | exact Drawn0.refl _ | apply Drawn0.step)⟩
            · show Value.int .i64 _ = Value.int .i64 _
              congr 1; omega
            · have := HA.out.2.2.2.2
              rw [HD.out] at this
              simp only [loc] at this
              rw [← E0.out, if_pos hb, ← E1.out] at this
              exact this
      · have hb1 : decide (x0 < pos) = false := decide_eq_false hb
        have hfin : (ln, co) = (line, col) := by
          have := HA.out.2.2.2.2
          rw [HD.out] at this
          simp only [loc] at this
          rw [← E0.out, if_neg hb] at this
          exact this
        have HF := Aside0.mk hfin
        clear hfin
        go_wp2_with fail
        obtain ⟨q0, q1⟩ := box2 (W := w1.drewN m) (b := w.heap.size) (.int .i64 ln) (.int .i64 co) hbx0 hbx1
        refine bodyPost_ret (v := .agg #[.int .i64 ln, .int .i64 co]) (by simp [results, Try.results7, go_sem, q0, q1]) rfl ⟨?_, ?_⟩
        · obtain ⟨h1, h2⟩ := Prod.mk.inj HF.out
          rw [h1, h2]
        · exact ((pw_below_drewN HB1.out m).setCell (Nat.le_refl _) _).setCell (Nat.le_refl _) _
    · have hltz : decide ((i : Int) < (r.length : Int)) = false := decide_eq_false (by omega)
      have hfin : (ln, co) = (line, col) := by
        have := HA.out.2.2.2.2
        rw [List.drop_of_length_le (by omega)] at this
        simpa [loc] using this
      have HF := Aside0.mk hfin
      clear hfin
      go_wp2_with fail
      obtain ⟨q0, q1⟩ := box2 (W := w1.drewN m) (b := w.heap.size) (.int .i64 ln) (.int .i64 co) hbx0 hbx1
      refine bodyPost_ret (v := .agg #[.int .i64 ln, .int .i64 co]) (by simp [results, Try.results7, go_sem, q0, q1]) rfl ⟨?_, ?_⟩
      · obtain ⟨h1, h2⟩ := Prod.mk.inj HF.out
        rw [h1, h2]
      · exact ((pw_below_drewN HB1.out m).setCell (Nat.le_refl _) _).setCell (Nat.le_refl _) _

set_option maxHeartbeats 400000 in
theorem where_any (k : Nat) (a0 : ByteArray) (r : List (List Int)) (pos line col : Int) (w : World) (hm : a0.size ≤ 2000) (hrl : r.length ≤ 2000) (hp0 : 0 ≤ pos) (hp : pos ≤ 2000)
   (hk : location_zzLineEnds.f k (bytesOf a0) = some r) (hin : ∀ m ∈ r, m.length = 2 ∧ 0 ≤ rd m 0 ∧ rd m 0 < rd m 1 ∧ rd m 1 ≤ (bytesOf a0).length) (hres : loc pos r 1 (pos + 1) = (line, col)) :
    Calls Try.prog 6 #[.string a0, .int .i64 pos] w fun e w' => e = .returned (.tuple #[.int .i64 line, .int .i64 col]) ∧ Below w.heap.size w w' := by
  have HK := Aside0.mk hk
  have HIN := Aside0.mk hin
  have HRES := Aside0.mk hres
  have hl : (bytesOf a0).length = a0.size := bytesOf_length a0
  have HL := Aside0.mk hl
  clear hk hin hres hl
  have kb := fun W => print_bytes (P := Try.prog) 9 30 5 Try.underlying9 Try.underlying30 Try.underlying5 a0 W
  go_enter Try.func6, Try.ntmps6
  go_wp2_with fail
  have hg := getLocation_any k (Lib.bytesWorld w 5 a0).heap.size (some ⟨w.heap.size, 0, none⟩) (grownCap w a0.size 0 5) (bytesOf a0) r pos line col
  rw [HL.out] at hg
  have hre : Kd.C (Kd.int .u8) (Lib.bytesWorld w 5 a0) (some ⟨w.heap.size, 0, none⟩) a0.size (bytesOf a0) := Kd.C_of_reads (enc := Value.int .u8) (d := (0 : Int)) (bytes_reads w 5 a0 (by omega))
  have hB0 : Below w.heap.size w (Lib.bytesWorld w 5 a0) := bytes_below (Below.refl _ _) (Nat.le_refl _) 5 a0
  refine (hg _ (by rw [World.cell?_alloc_new]; rfl) (Kd.C_below hre (below_alloc (Below.refl _ _) _)) (grownCap_ge w a0.size 0 5) hm hrl hp0 hp HK.out (by have := HIN.out; rwa [HL.out] at this) HRES.out).mono ?_
  rintro e w1 ⟨rfl, hb1⟩
  have HB := Aside0.mk (below_then (below_alloc hB0 _) (by have := hB0.size; simp; omega) hb1)
  clear hb1 hB0 hre hg
  go_wp2_with fail
  go_quiet (fail)
  go_wp2_with fail
  go_ret2
  exact ⟨rfl, pw_below_drewN (HB.out.alloc HB.out.size _) _⟩

set_option maxHeartbeats 400000 in
theorem law_short (a0 : ByteArray) (pos : Int) (w : World) (hs : 2000 < (a0.size : Int)) :
    Calls Try.prog 3 #[.string a0, .int .i64 pos] w fun e w' => e = .returned (.bool true) ∧ Below w.heap.size w w' := by
  go_enter Try.func3, Try.ntmps3
  go_wp2_with fail
  all_goals
    go_ret
    exact ⟨rfl, Below.refl _ _⟩

set_option maxHeartbeats 400000 in
theorem law_any (a0 : ByteArray) (pos : Int) (w : World) (hs : (a0.size : Int) ≤ 2000) :
    Calls Try.prog 3 #[.string a0, .int .i64 pos] w fun e w' => e = .returned (.bool true) ∧ Below w.heap.size w w' := by
  obtain ⟨b, hb⟩ := ascii_tells a0 (by omega) (a0.size + 1) 0 (by omega)
  have HBb := Aside0.mk hb
  clear hb
  go_enter Try.func3, Try.ntmps3
  go_wp2_with fail
  refine (laws_ascii9.calls (a0.size + 1) a0 b _ HBb.out).mono ?_
  rintro e w1 ⟨rfl, ⟨m, rfl⟩⟩
  by_cases hp0 : pos < 0
  · cases b <;>
    · go_wp2_with fail
      go_ret
      exact ⟨rfl, pw_below_drewN (Below.refl _ _) _⟩
  by_cases hp1 : (a0.size : Int) < pos
  · cases b <;>
    · go_wp2_with fail
      go_ret
      exact ⟨rfl, pw_below_drewN (Below.refl _ _) _⟩
  obtain ⟨k, r, line, col, q1, q2, q3, q4, q5⟩ := parts_tell a0 (by omega) pos (by omega) (by omega)
  have Q1 := Aside0.mk q1
  have Q3 := Aside0.mk q3
  have Q4 := Aside0.mk q4
  have Q5 := Aside0.mk q5
  clear q1 q3 q4 q5
  have hp0' : 0 ≤ pos := by omega
  have hp1' : pos ≤ (a0.size : Int) := by omega
  clear hp0 hp1
  cases b with
  | false =>
    go_wp2_with fail
    go_ret
    exact ⟨rfl, pw_below_drewN (Below.refl _ _) _⟩
  | true =>
    go_wp2_with fail
    all_goals first
      | (go_ret
         exact ⟨rfl, pw_below_drewN (Below.refl _ _) _⟩)
      | (refine (spec_Where.calls k a0 pos line col _ Q5.out).mono ?_
         rintro e w1 ⟨rfl, ⟨m2, rfl⟩⟩
         go_wp2_with fail
         refine (where_any k a0 r pos line col _ (by omega) q2 hp0' (by omega) Q1.out Q3.out Q4.out).mono ?_
         rintro e w1 ⟨rfl, hb1⟩
         have HB := Aside0.mk hb1
         clear hb1
         go_wp2_with fail
         go_ret
         exact ⟨by simp, below_then (pw_below_drewN (Below.refl _ _) _) (Nat.le_refl _) HB.out⟩)

theorem law_walk (a0 : ByteArray) (a1 : Int) (w : World) (h0 : a0.size ≤ 140737488351232) (h1 : (Lit.int .i64 a1).wf = true) :
    Calls Try.prog 3 #[.string a0, .int .i64 a1] w fun e w' => e = .returned (.bool true) ∧ Below w.heap.size w w' := by
  by_cases hs : (a0.size : Int) ≤ 2000
  · exact law_any a0 a1 w hs
  · exact law_short a0 a1 w (by omega)

end Go.Proofs.Ytknbpibjjhcdiaa.PFnWhere
