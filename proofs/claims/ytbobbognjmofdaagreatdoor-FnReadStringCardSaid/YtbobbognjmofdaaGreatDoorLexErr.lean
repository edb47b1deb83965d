/-
  What the package makes of an error in a text: where it stands (location.GetLocation), and that an error comes back (gqlerrors.NewSyntaxError). At texts of at most 2000 bytes.
-/
import Derived.Test.YtbobbognjmofdaaGreatDoorLexEnds
import Derived.Test.YtbobbognjmofdaaGreatDoorLexBase
namespace Go.Proofs.YtbobbognjmofdaaGreatDoor.PFnReadString
open Go.RowKit Go.Proofs.YtbobbognjmofdaaGreatDoorW.PrintWords Go.Proofs.YtbobbognjmofdaaGreatDoorW.PrintLast Go.Proofs.YtbobbognjmofdaaGreatDoorW.PrintMore
set_option linter.unusedVariables false
set_option linter.unusedSimpArgs false

/-- The byte at a place. -/
abbrev bb (s : ByteArray) (i : Nat) : Int := bt s (i : Int)
/-- The end of the line end that stands at a place. -/
def fin (s : ByteArray) (i : Nat) : Nat := if bb s i = 13 ∧ i + 1 < s.size ∧ bb s (i + 1) = 10 then i + 2 else i + 1
/-- Where the line ends from a place on begin and end. -/
def ends (s : ByteArray) (n i : Nat) : List (List Int) :=
  match n with
  | 0 => []
  | n + 1 => if i < s.size then (if bb s i = 13 ∨ bb s i = 10 then [(i : Int), (fin s i : Int)] :: ends s n (fin s i) else ends s n (i + 1)) else []
/-- What GetLocation's loop makes of line ends. -/
def locOf (place : Int) : List (List Int) → Int → Int → Int × Int
  | [], line, col => (line, col)
  | m :: ms, line, col => if rd m 0 < place then locOf place ms (line + 1) (place + 1 - rd m 1) else (line, col)
theorem fin_bd (s : ByteArray) (i : Nat) : i + 1 ≤ fin s i ∧ fin s i ≤ i + 2 ∧ (i < s.size → fin s i ≤ s.size) := by
  unfold fin; split <;> omega
theorem w64 {x : Int} (h : -1000000 ≤ x) (h' : x ≤ 1000000) : wrap64 x = x := by unfold wrap64; omega

theorem ends_len (s : ByteArray) : ∀ n i : Nat, i ≤ s.size → (ends s n i).length ≤ s.size - i := by
  intro n
  induction n with
  | zero => intro i _; simp [ends]
  | succ n ih =>
    intro i hi
    unfold ends
    have hf := fin_bd s i
    split
    · split
      · have := ih (fin s i) (by omega)
        simp; omega
      · have := ih (i + 1) (by omega)
        omega
    · simp

set_option maxHeartbeats 400000 in
theorem lines_tell (s : ByteArray) (hs : s.size ≤ 2000) : ∀ (n i k : Nat) (acc : List (List Int)), s.size - i < n → i ≤ s.size → acc.length ≤ i → 2 * n ≤ k →
    location_zzLineEnds.l0 k (bytesOf s) acc i = some (acc ++ ends s n i) := by
  intro n
  induction n with
  | zero => intro i k acc h; omega
  | succ n ih =>
    intro i k acc hn hi hacc hk
    obtain ⟨k, rfl⟩ : ∃ m, k = m + 2 := ⟨k - 2, by omega⟩
    have hl : (bytesOf s).length = s.size := bytesOf_length s
    have hf := fin_bd s i
    by_cases hlt : i < s.size
    · have w1 : Aside0 (wrap64 ((i : Int) + 1) = ((i + 1 : Nat) : Int)) := ⟨by rw [w64 (by omega) (by omega)]; omega⟩
      have w2 : Aside0 (wrap64 ((i : Int) + 2) = ((i + 2 : Nat) : Int)) := ⟨by rw [w64 (by omega) (by omega)]; omega⟩
      have w3 : Aside0 (wrap64 (((i + 1 : Nat) : Int) + 1) = ((i + 2 : Nat) : Int)) := ⟨by rw [w64 (by omega) (by omega)]; omega⟩
      have h1 : ∀ a : Nat, fin s i = a → (bb s i = 13 ∨ bb s i = 10) → location_zzLineEnds.l0 k (bytesOf s) (acc ++ [[(i : Int), (a : Int)]]) (a : Nat) = some (acc ++ ends s (n + 1) i) := by
        intro a ha hb
        subst ha
        rw [ih (fin s i) k _ (by omega) (by omega) (by simp; omega) (by omega)]
        conv => rhs; unfold ends
        rw [if_pos hlt, if_pos hb]
        simp
      have h2 : ¬(bb s i = 13 ∨ bb s i = 10) → location_zzLineEnds.l0 k (bytesOf s) acc ((i + 1 : Nat) : Int) = some (acc ++ ends s (n + 1) i) := by
        intro hb
        rw [ih (i + 1) k acc (by omega) (by omega) (by omega) (by omega)]
        conv => rhs; unfold ends
        rw [if_pos hlt, if_neg hb]
      have hj : ∀ b : Bool, (b = true → bb s i = 13 ∧ i + 1 < s.size ∧ bb s (i + 1) = 10) → (b = false → ¬(bb s i = 13 ∧ i + 1 < s.size ∧ bb s (i + 1) = 10)) → location_zzLineEnds.j1 (k + 1) (bytesOf s) acc i b = some (acc ++ ends s (n + 1) i) := by
        intro b hb1 hb2
        simp only [location_zzLineEnds.j1, hl, rd_bytesOf, w1.out, w2.out, w3.out]
        cases b with
        | true =>
          have hb := hb1 rfl
          rw [if_pos rfl, if_pos (by omega)]
          exact h1 (i + 2) (by unfold fin; rw [if_pos hb]) (.inl hb.1)
        | false =>
          have hb := hb2 rfl
          have he : fin s i = i + 1 := by unfold fin; rw [if_neg hb]
          rw [if_neg (by simp), if_pos (by omega), if_pos (by omega)]
          by_cases h13 : bb s i = 13
          · rw [if_pos h13, if_pos (by omega)]
            exact h1 (i + 1) he (.inl h13)
          · rw [if_neg h13]
            by_cases h10 : bb s i = 10
            · rw [if_pos h10, if_pos (by omega)]
              exact h1 (i + 1) he (.inr h10)
            · rw [if_neg h10]
              exact h2 (by simp [h13, h10])
      simp only [location_zzLineEnds.l0, hl, rd_bytesOf, w1.out]
      rw [if_pos (by omega), if_pos (by omega)]
      by_cases h13 : bb s i = 13
      · rw [if_pos h13]
        by_cases hn1 : i + 1 < s.size
        · rw [if_pos (by omega), if_pos (by omega)]
          exact hj _ (fun h => ⟨h13, hn1, beq_iff_eq.1 h⟩) (fun h hh => beq_eq_false_iff_ne.1 h hh.2.2)
        · rw [if_neg (by omega)]
          exact hj _ (fun h => by cases h) (fun _ hh => by omega)
      · rw [if_neg h13]
        exact hj _ (fun h => by cases h) (fun _ hh => h13 hh.1)
    · simp only [location_zzLineEnds.l0, hl]
      rw [if_neg (by omega)]
      unfold ends
      rw [if_neg hlt]
      simp

theorem ends_in (s : ByteArray) : ∀ n i : Nat, ∀ m ∈ ends s n i, m.length = 2 ∧ 0 ≤ rd m 0 ∧ rd m 0 < rd m 1 ∧ rd m 1 ≤ s.size := by
  intro n
  induction n with
  | zero => intro i m hm; simp [ends] at hm
  | succ n ih =>
    intro i m hm
    have hf := fin_bd s i
    unfold ends at hm
    split at hm
    · split at hm
      · rcases List.mem_cons.1 hm with rfl | hm
        · have h0 : rd [(i : Int), (fin s i : Int)] 0 = i := rfl
          have h1 : rd [(i : Int), (fin s i : Int)] 1 = fin s i := rfl
          rw [h0, h1]
          refine ⟨rfl, by omega, by omega, ?_⟩
          have := hf.2.2 ‹_›
          omega
        · exact ih _ m hm
      · exact ih _ m hm
    · cases hm

/-- Cells of an elder world. -/
theorem old_cell {w w1 : World} (hb : Below w.heap.size w w1) {a : Addr} {v : Value} (hc : w.cell? a = some v) : w1.cell? a = some v := pw_cell_below hb hc

theorem box2 {W : World} {b : Nat} {u0 u1 : Value} (x y : Value) (h0 : W.cell? ⟨b, 0, none⟩ = some u0) (h1 : W.cell? ⟨b, 1, none⟩ = some u1) :
    ((W.setCell ⟨b, 0, none⟩ x).setCell ⟨b, 1, none⟩ y).cell? ⟨b, 0, none⟩ = some x ∧ ((W.setCell ⟨b, 0, none⟩ x).setCell ⟨b, 1, none⟩ y).cell? ⟨b, 1, none⟩ = some y := by
  have n0 : (⟨b, 0, none⟩ : Addr) ≠ ⟨b, 1, none⟩ := fun h => by injection h with _ h; cases h
  have n1 : (⟨b, 1, none⟩ : Addr) ≠ ⟨b, 0, none⟩ := fun h => n0 h.symm
  have e0 : (W.setCell ⟨b, 0, none⟩ x).cell? ⟨b, 1, none⟩ = some u1 := (World.cell?_setCell_other _ _ _ _ n0).trans h1
  exact ⟨(World.cell?_setCell_other _ _ _ _ n1).trans (World.cell?_setCell_same _ _ _ h0), World.cell?_setCell_same _ _ _ e0⟩

set_option maxHeartbeats 400000 in
theorem getLocation_any (k : Nat) (g : Nat) (A : Option Addr) (c : Nat) (l : List Int) (r : List (List Int)) (pos line col : Int) (w : World)
   (hB : w.cell? ⟨g, 0, none⟩ = some (.slice A l.length c)) (hr : Kd.C (Kd.int .u8) w A l.length l) (hc : l.length ≤ c) (hm : l.length ≤ 2000) (hrl : r.length ≤ 2000) (hp0 : 0 ≤ pos) (hp : pos ≤ 2000)
   (hk : location_zzLineEnds.f k l = some r) (hin : ∀ m ∈ r, m.length = 2 ∧ 0 ≤ rd m 0 ∧ rd m 0 < rd m 1 ∧ rd m 1 ≤ l.length) (hres : locOf pos r 1 (pos + 1) = (line, col)) :
    Calls Tryz.prog 184 #[.pointer (some ⟨g, 0, none⟩), .int .i64 pos] w fun e w' => e = .returned (.agg #[.int .i64 line, .int .i64 col]) ∧ Below w.heap.size w w' := by
  have HB := Aside0.mk hB
  have HR := Aside0.mk hr
  have HK := Aside0.mk hk
  have HIN := Aside0.mk hin
  have HRES := Aside0.mk hres
  have hB1 : ∀ o, (w.alloc o).cell? ⟨g, 0, none⟩ = some (.slice A l.length c) := fun o => old_cell (below_alloc (Below.refl _ _) o) hB
  have hB2 : ∀ o o', ((w.alloc o).alloc o').cell? ⟨g, 0, none⟩ = some (.slice A l.length c) := fun o o' => old_cell (below_alloc (below_alloc (Below.refl _ _) o) o') hB
  clear hB hr hk hin hres
  have hrr : ∀ o o', Kd.C (Kd.int .u8) ((w.alloc o).alloc o') A l.length l := fun o o' => Kd.C_below HR.out (below_alloc (below_alloc (Below.refl _ _) o) o')
  have HRR := Aside0.mk hrr
  clear hrr
  go_enter Tryz.func184, Tryz.ntmps184
  go_wp2_with fail
  refine (location_zzLineEnds.calls k A c l r _ (HRR.out _ _) hc HK.out).mono ?_
  rintro e w1 ⟨v0, rfl, hS, hb1⟩
  obtain ⟨A1, c1, rfl, hc1, hC1⟩ := Kd.R_reads (Kd.S_R hS)
  have HC1 := Aside0.mk hC1
  have hbx0 : w1.cell? ⟨w.heap.size, 0, none⟩ = some (.int .i64 0) := by
    rw [hb1.cell (p := ⟨w.heap.size, 0, none⟩) (by simp; omega)]
    go_simp
  have hbx1 : w1.cell? ⟨w.heap.size, 1, none⟩ = some (.int .i64 0) := by
    rw [hb1.cell (p := ⟨w.heap.size, 1, none⟩) (by simp; omega)]
    go_simp
  have hfx0 : w1.frozen? ⟨w.heap.size, 0, none⟩ = false := by
    rw [hb1.frozen (p := ⟨w.heap.size, 0, none⟩) (by simp; omega)]
    go_simp
  have hfx1 : w1.frozen? ⟨w.heap.size, 1, none⟩ = false := by
    rw [hb1.frozen (p := ⟨w.heap.size, 1, none⟩) (by simp; omega)]
    go_simp
  have hz : w.heap.size < w1.heap.size := by have := hb1.size; simp at this; omega
  have hb0 : Below w.heap.size w w1 := below_alloc (below_alloc (Below.refl _ _) _) _ |>.trans (hb1.mono (by simp; omega))
  have HB1 := Aside0.mk hb0
  have hB3 : w1.cell? ⟨g, 0, none⟩ = some (.slice A l.length c) := old_cell hb0 HB.out
  clear hS hb1 hC1 hB1 hB2 hb0
  go_wp2_with fail
  go_loopg [6, 7, 26] r.length (fun kq v6 v7 v26 wr => ∃ (i : Nat) (ln co : Int), v6 = .int .i64 ln ∧ v7 = .int .i64 co ∧ v26 = .int .i64 (i : Int) ∧ Aside0 (i ≤ r.length ∧ kq = r.length - i ∧ 0 ≤ ln ∧ ln ≤ i + 1 ∧ locOf pos (r.drop i) ln co = (line, col)) ∧ Drawn0 w1 wr)
  case atStart => exact ⟨0, 1, pos + 1, rfl, rfl, rfl, ⟨by omega, by omega, by omega, by omega, HRES.out⟩, Drawn0.refl _⟩
  case round =>
    obtain ⟨i, ln, co, rfl, rfl, rfl, HA, ⟨m, rfl⟩⟩ := hrel
    have hlen : r.length ≤ 9223372036854775807 := by omega
    have hln0 : 0 ≤ ln := HA.out.2.2.1
    have hln1 : ln ≤ 2001 := by have := HA.out.1; have := HA.out.2.2.2.1; omega
    have hiz : (i : Int) ≤ 2000 := by have := HA.out.1; omega
    by_cases hlt : i < r.length
    · have hltz : decide ((i : Int) < (r.length : Int)) = true := decide_eq_true (by omega)
      have hi0 : 0 ≤ (i : Int) := by omega
      have hi1 : (i : Int) < (r.length : Int) := by omega
      obtain ⟨ad, A0, c0, rfl, hcell, hc0, hC0⟩ := at_L1 HC1.out (i : Int) hi0 hi1
      obtain ⟨mi, hmi⟩ : ∃ mi, mi = rd_L1 r (i : Int) := ⟨_, rfl⟩
      rw [← hmi] at hcell hc0 hC0
      rw [Int.toNat_natCast] at hcell
      have hmem : mi ∈ r := by
        rw [hmi]; unfold rd_L1
        rw [Int.toNat_natCast, List.getD_eq_getElem?_getD, List.getElem?_eq_getElem hlt]
        exact List.getElem_mem hlt
      have hdrop : r.drop i = mi :: r.drop (i + 1) := by
        rw [hmi]; unfold rd_L1
        rw [Int.toNat_natCast, List.getD_eq_getElem?_getD, List.getElem?_eq_getElem hlt]
        exact List.drop_eq_getElem_cons hlt
      obtain ⟨hm2, hm0, hm01, hm1⟩ := HIN.out mi hmem
      obtain ⟨ad0, rfl, hx0⟩ := Kd.at_int hC0 0 (by omega) (by omega)
      obtain ⟨ad1, e1, hx1⟩ := Kd.at_int hC0 1 (by omega) (by omega)
      cases e1
      have hx0' : w1.cell? ad0 = some (.int .i64 (rd mi 0)) := by rw [show ad0.add (Int.toNat 0) = ad0 from rfl] at hx0; exact hx0
      have hx1' : w1.cell? ⟨ad0.block, ad0.off + 1, none⟩ = some (.int .i64 (rd mi 1)) := hx1
      have hne : ¬ (c = (rd mi 0).toNat) := by omega
      have HD := Aside0.mk hdrop
      clear hdrop hmi hmem hC0 hc0 hx0 hx1
      rw [hm2] at hcell
      clear hm2
      have hlc : (l.length : Int) ≤ 2000 := by omega
      have hlc' : (l.length : Int) ≤ (c : Int) := by omega
      obtain ⟨x0, hx0e⟩ : ∃ x0, x0 = rd mi 0 := ⟨_, rfl⟩
      obtain ⟨x1, hx1e⟩ : ∃ x1, x1 = rd mi 1 := ⟨_, rfl⟩
      rw [← hx0e] at hx0' hm0 hm01 hne
      rw [← hx1e] at hx1' hm01 hm1
      have E0 := Aside0.mk hx0e
      have E1 := Aside0.mk hx1e
      clear hx0e hx1e
      by_cases hb : x0 < pos
      · have hb1 : decide (x0 < pos) = true := decide_eq_true hb
        go_wp2_with fail
        go_quiet (fail)
        go_wp2_with fail
        all_goals
          go_roundg (r.length - (i + 1))
          case measure => have := HA.out; omega
          case rel =>
            refine ⟨i + 1, ln + 1, pos + 1 - x1, rfl, ?_, by go_num, ⟨by omega, rfl, by omega, by have := HA.out; omega, ?_⟩, by repeat (first | exact Drawn0.refl _ | apply Drawn0.step)⟩
            · show Value.int .i64 _ = Value.int .i64 _
              congr 1; omega
            · have := HA.out.2.2.2.2
              rw [HD.out] at this
              simp only [locOf] at this
              rw [← E0.out, if_pos hb, ← E1.out] at this
              exact this
      · have hb1 : decide (x0 < pos) = false := decide_eq_false hb
        have hfin : (ln, co) = (line, col) := by
          have := HA.out.2.2.2.2
          rw [HD.out] at this
          simp only [locOf] at this
          rw [← E0.out, if_neg hb] at this
          exact this
        have HF := Aside0.mk hfin
        clear hfin
        go_wp2_with fail
        obtain ⟨q0, q1⟩ := box2 (W := w1.drewN m) (b := w.heap.size) (.int .i64 ln) (.int .i64 co) hbx0 hbx1
        refine bodyPost_ret (v := .agg #[.int .i64 ln, .int .i64 co]) (by simp [results, Tryz.results184, go_sem, q0, q1]) rfl ⟨?_, ?_⟩
        · obtain ⟨h1, h2⟩ := Prod.mk.inj HF.out
          rw [h1, h2]
        · exact ((pw_below_drewN HB1.out m).setCell (Nat.le_refl _) _).setCell (Nat.le_refl _) _
    · have hltz : decide ((i : Int) < (r.length : Int)) = false := decide_eq_false (by omega)
      have hfin : (ln, co) = (line, col) := by
        have := HA.out.2.2.2.2
        rw [List.drop_of_length_le (by omega)] at this
        simpa [locOf] using this
      have HF := Aside0.mk hfin
      clear hfin
      go_wp2_with fail
      obtain ⟨q0, q1⟩ := box2 (W := w1.drewN m) (b := w.heap.size) (.int .i64 ln) (.int .i64 co) hbx0 hbx1
      refine bodyPost_ret (v := .agg #[.int .i64 ln, .int .i64 co]) (by simp [results, Tryz.results184, go_sem, q0, q1]) rfl ⟨?_, ?_⟩
      · obtain ⟨h1, h2⟩ := Prod.mk.inj HF.out
        rw [h1, h2]
      · exact ((pw_below_drewN HB1.out m).setCell (Nat.le_refl _) _).setCell (Nat.le_refl _) _


end Go.Proofs.YtbobbognjmofdaaGreatDoor.PFnReadString
