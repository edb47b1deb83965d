import Derived.Test.YtbobbognjmofdaaGreatDoorLexBase
import Derived.Test.YtbobbognjmofdaaGreatDoorPtextx2
namespace Go.Proofs.YtbobbognjmofdaaGreatDoor.Lex
open Go.RowKit Go.Proofs.YtbobbognjmofdaaGreatDoorW.PrintWords Go.Proofs.YtbobbognjmofdaaGreatDoorW.PrintLast Go.Proofs.YtbobbognjmofdaaGreatDoorW.PrintMore
open Go.Proofs.YtbobbognjmofdaaGreatDoor.Ptext
set_option linter.unusedVariables false
set_option linter.unusedSimpArgs false
theorem slice_str (s : ByteArray) (a b : Int) (h0 : 0 ≤ a) (h1 : a ≤ b) (h2 : b ≤ (s.size : Int)) (W : World) :
    (Instr.slice 9 (.string s) (some (.int .i64 a)) (some (.int .i64 b)) none).run Tryz.prog W = .ok (.string (s.extract a.toNat b.toNat)) W := by
  have hb : 0 ≤ b := by omega
  have c1 : decide (0 ≤ a) = true := decide_eq_true h0
  have c2 : decide (a ≤ b) = true := decide_eq_true h1
  have c3 : decide (b ≤ (s.size : Int)) = true := decide_eq_true h2
  go_simp
def hexv (c : Int) : Int := if 48 ≤ c ∧ c ≤ 57 then c - 48 else if 97 ≤ c ∧ c ≤ 102 then c - 87 else if 65 ≤ c ∧ c ≤ 70 then c - 55 else -1
theorem hexv_range (c : Int) : -1 ≤ hexv c ∧ hexv c ≤ 15 := by unfold hexv; (repeat' split) <;> omega
theorem hex_tells (c : Int) (h0 : 0 ≤ c) (h1 : c ≤ 255) : spec_hexadecimal.f 3 c = some (hexv c) := by
  unfold spec_hexadecimal.f hexv
  simp only [spec_hexadecimal.j0, spec_hexadecimal.j1, decide_eq_true_eq]
  (repeat' split) <;> first | omega | (simp_all [wrap64]; try omega)
abbrev FR : ByteArray := { data := #[34, 92, 47, 98, 102, 110, 114, 116] }
abbrev TO : ByteArray := { data := #[34, 92, 47, 8, 12, 10, 13, 9] }
/-- What a short escape stands for. -/
def escText (c : Int) : Option ByteArray := if c = 34 then some ⟨#[34]⟩ else if c = 92 then some ⟨#[92]⟩ else if c = 47 then some ⟨#[47]⟩ else if c = 98 then some ⟨#[8]⟩ else if c = 102 then some ⟨#[12]⟩ else if c = 110 then some ⟨#[10]⟩ else if c = 114 then some ⟨#[13]⟩ else if c = 116 then some ⟨#[9]⟩ else none
theorem esc_hit (c : Int) : ∀ i : Nat, i < 8 → bt FR (i : Int) = c → escText c = some (TO.extract i (i + 1)) := by
  intro i hi h
  subst h
  rcases i with _ | _ | _ | _ | _ | _ | _ | _ | i
  all_goals first | rfl | (exfalso; omega)
theorem esc_miss (c : Int) (h : ∀ j : Nat, j < 8 → bt FR (j : Int) ≠ c) : escText c = none := by
  have h0 : (34 : Int) ≠ c := h 0 (by omega)
  have h1 : (92 : Int) ≠ c := h 1 (by omega)
  have h2 : (47 : Int) ≠ c := h 2 (by omega)
  have h3 : (98 : Int) ≠ c := h 3 (by omega)
  have h4 : (102 : Int) ≠ c := h 4 (by omega)
  have h5 : (110 : Int) ≠ c := h 5 (by omega)
  have h6 : (114 : Int) ≠ c := h 6 (by omega)
  have h7 : (116 : Int) ≠ c := h 7 (by omega)
  unfold escText
  simp [h0.symm, h1.symm, h2.symm, h3.symm, h4.symm, h5.symm, h6.symm, h7.symm]
def hexs (s : ByteArray) : Nat → Int → Int → Except Int Int
  | 0, _, a => .ok a
  | k + 1, p, a => if hexv (nx s p) < 0 then .error p else hexs s k (p + 1) (16 * a + hexv (nx s p))
/-- What the escape at a place stands for, how many bytes it has, and whether that is not sure. -/
def esc (s : ByteArray) (p : Int) : ByteArray × Int × Bool :=
  match escText (nx s (p + 1)) with
  | some t => (t, 2, false)
  | none => if nx s (p + 1) ≠ 117 then (⟨#[]⟩, 0, false) else
    match hexs s 4 (p + 2) 0 with
    | .error q => (⟨#[]⟩, 0, nx s q == 123)
    | .ok n => if 55296 ≤ n ∧ n < 57344 then (⟨#[]⟩, 0, true) else (Utf8.encode n, 6, n == 0)
theorem nx_range (s : ByteArray) (i : Int) : 0 ≤ nx s i ∧ nx s i ≤ 255 := by
  unfold nx; split
  · exact bt_range s i
  · omega
set_option maxRecDepth 4000 in
set_option maxHeartbeats 400000 in
theorem esc_any (base g : Nat) (x : LS) (at_ : Int) (w : World) (h : Lx w base g x) (hbase : base ≤ w.heap.size) (hi : 0 ≤ at_) (hs : at_ ≤ 100000) :
    Calls Tryz.prog 55 #[.pointer (some ⟨g, 0, none⟩), .int .i64 at_] w fun e w' => e = .returned (.tuple #[.string (esc x.s at_).1, .int .i64 (esc x.s at_).2.1]) ∧ Lx w' base g { x with unsure := x.unsure || (esc x.s at_).2.2 } ∧ Below base w w' := by
  have HX := Aside0.mk h
  clear h
  obtain ⟨c, hc⟩ : ∃ c, c = nx x.s (at_ + 1) := ⟨_, rfl⟩
  have HC := Aside0.mk hc
  clear hc
  obtain ⟨E, hE⟩ : ∃ E, E = esc x.s at_ := ⟨_, rfl⟩
  rw [← hE]
  have HE := Aside0.mk hE
  clear hE
  go_enter Tryz.func55, Tryz.ntmps55
  go_wp2_with fail
  refine (next_any base g x (at_ + 1) w HX.out (by omega)).mono ?_
  rintro e w1 ⟨rfl, ⟨m, rfl⟩⟩
  rw [← HC.out]
  have HX1 := Aside0.mk (HX.out.drewN m)
  go_wp2_with fail
  go_loopg [9] 8 (fun kq v9 wr => ∃ (i : Nat), v9 = .int .i64 (i : Int) ∧ Aside0 (i ≤ 8 ∧ kq = 8 - i ∧ ∀ j : Nat, j < i → bt FR (j : Int) ≠ c) ∧ Drawn0 w wr)
  case atStart => exact ⟨0, rfl, ⟨by omega, by omega, by omega⟩, ⟨m, rfl⟩⟩
  case round =>
    obtain ⟨i, rfl, HA, ⟨m2, rfl⟩⟩ := hrel
    have hiz : (i : Int) ≤ 8 := by have := HA.out.1; omega
    by_cases hlt : (i : Int) < 8
    · have hltz : decide ((i : Int) < (8 : Int)) = true := decide_eq_true hlt
      have hin : i < 8 := by omega
      have hx : ((({ data := #[34, 92, 47, 98, 102, 110, 114, 116] } : ByteArray)[i]'hin).toNat : Int) = bt FR (i : Int) := bt_at FR (i : Int) hin
      obtain ⟨q, hq⟩ : ∃ q, q = bt FR (i : Int) := ⟨_, rfl⟩
      rw [← hq] at hx
      have HQ := Aside0.mk hq
      clear hq
      by_cases he : q = c
      · have heb : (q == c) = true := beq_iff_eq.mpr he
        have ks := fun W => slice_str { data := #[34, 92, 47, 8, 12, 10, 13, 9] } (i : Int) ((i : Int) + 1) (by omega) (by omega) (by show (i : Int) + 1 ≤ 8; omega) W
        have hv := esc_hit c i hin (by rw [← HQ.out]; exact he)
        have hEv : E = (TO.extract i (i + 1), 2, false) := by
          rw [HE.out]; unfold esc; rw [← HC.out, hv]
        have HEV := Aside0.mk hEv
        clear he hv hEv
        go_wp2_with fail
        go_ret2
        rw [HEV.out]
        refine ⟨?_, ?_, pw_below_drewN (Below.refl _ _) _⟩
        · rfl
        · simpa using HX.out.drewN m2
      · have heb : (q == c) = false := beq_eq_false_iff_ne.mpr he
        have HE1 := Aside0.mk he
        clear he
        go_wp2_with fail
        go_roundg (8 - (i + 1))
        case measure => have := HA.out; omega
        case rel => 
          refine ⟨i + 1, by go_num, ⟨by omega, rfl, ?_⟩, ⟨m2, rfl⟩⟩
          intro j hj
          rcases Nat.lt_succ_iff_lt_or_eq.1 hj with hj | rfl
          · exact HA.out.2.2 j hj
          · rw [← HQ.out]; exact HE1.out
    · have hltz : decide ((i : Int) < (8 : Int)) = false := decide_eq_false hlt
      have hmiss : escText c = none := esc_miss c (fun j hj => HA.out.2.2 j (by omega))
      have HM := Aside0.mk hmiss
      clear hmiss
      by_cases hu : c = 117
      · have hub : (c != 117) = false := by simp [hu]
        have HU := Aside0.mk hu
        clear hu
        have HX2 := Aside0.mk (HX.out.drewN m2)
        obtain ⟨R, hR⟩ : ∃ R, R = hexs x.s 4 (at_ + 2) 0 := ⟨_, rfl⟩
        have HR := Aside0.mk hR
        clear hR
        go_wp2_with fail
        go_loopg [10, 11] 4 (fun kq v10 v11 wr => ∃ (j : Nat) (a : Int), v10 = .int .i64 a ∧ v11 = .int .i64 (at_ + 2 + j) ∧ Aside0 (j ≤ 4 ∧ kq = 4 - j ∧ 0 ≤ a ∧ a < 16 ^ j ∧ hexs x.s (4 - j) (at_ + 2 + j) a = R) ∧ Drawn0 w wr)
        case atStart => exact ⟨0, 0, rfl, by simp, ⟨by omega, by omega, by omega, by omega, by rw [HR.out]; simp⟩, ⟨m2, rfl⟩⟩
        case round =>
          obtain ⟨j, a, rfl, rfl, HJ, ⟨m3, rfl⟩⟩ := hrel
          have hjz : (j : Int) ≤ 4 := by have := HJ.out.1; omega
          have ha0 : 0 ≤ a := HJ.out.2.2.1
          have ha1 : a < 65536 ∧ (j < 4 → a < 4096) := by
            have h4 := HJ.out.2.2.2.1
            have hj4 := HJ.out.1
            clear HJ
            rcases j with _ | _ | _ | _ | _ | j <;> (try simp at h4) <;> omega
          have HX3 := Aside0.mk (HX.out.drewN m3)
          by_cases hj : (j : Int) < 4
          · have hjb : decide (at_ + 2 + (j : Int) < at_ + 6) = true := decide_eq_true (by omega)
            have ha2 : a < 4096 := ha1.2 (by omega)
            obtain ⟨ch, hch⟩ : ∃ ch, ch = nx x.s (at_ + 2 + j) := ⟨_, rfl⟩
            have hrg := nx_range x.s (at_ + 2 + j)
            rw [← hch] at hrg
            have HCH := Aside0.mk hch
            obtain ⟨d, hd⟩ : ∃ d, d = hexv ch := ⟨_, rfl⟩
            have hdr := hexv_range ch
            rw [← hd] at hdr
            have HD := Aside0.mk hd
            have hrun : hexs x.s (4 - j) (at_ + 2 + j) a = if d < 0 then .error (at_ + 2 + j) else hexs x.s (4 - (j + 1)) (at_ + 2 + ((j + 1 : Nat) : Int)) (16 * a + d) := by
              have e1 : 4 - j = (4 - (j + 1)) + 1 := by omega
              rw [e1]
              simp only [hexs, ← hch, ← hd]
              congr 2
              push_cast; omega
            have HRUN := Aside0.mk hrun
            clear hch hd hrun ha1
            go_wp2_with fail
            refine (next_any base g x (at_ + 2 + j) (w.drewN m3) HX3.out (by omega)).mono ?_
            rintro e w2 ⟨rfl, ⟨m4, rfl⟩⟩
            rw [← HCH.out]
            go_wp2_with fail
            have ht := hex_tells ch hrg.1 hrg.2
            rw [← HD.out] at ht
            have HT := Aside0.mk ht
            clear ht
            refine (spec_hexadecimal.calls 3 ch d _ HT.out).mono ?_
            rintro e w2 ⟨rfl, ⟨m5, rfl⟩⟩
            by_cases hneg : d < 0
            · have hnb : decide (d < 0) = true := decide_eq_true hneg
              have HX4 := HX.out.drewN (m3 + m4 + m5)
              have HXX := Aside0.mk HX4
              obtain ⟨v, c0, c1, c2, c3, c4, fz⟩ := HX4.cells
              clear HX4
              have hRe : R = .error (at_ + 2 + j) := by
                rw [← HJ.out.2.2.2.2, HRUN.out, if_pos hneg]
              have hEv : E = (⟨#[]⟩, 0, ch == 123) := by
                rw [HE.out]; unfold esc
                rw [← HC.out, HM.out, HU.out]
                simp only [ne_eq, not_true_eq_false, if_false]
                rw [← HR.out, hRe, HCH.out]
              have HEV := Aside0.mk hEv
              clear hRe hEv
              by_cases hun : x.unsure = true
              · rw [hun] at c4
                go_wp2_with fail
                go_ret2
                rw [HEV.out]
                refine ⟨rfl, ?_, ?_⟩
                · have := HXX.out.set4 true
                  simpa [hun] using this
                · exact HXX.out.bset (pw_below_drewN (Below.refl _ _) _) 4 _
              · have hun' : x.unsure = false := by simpa using hun
                rw [hun'] at c4
                go_wp2_with fail
                refine (next_any base g x (at_ + 2 + j) _ HXX.out (by omega)).mono ?_
                rintro e w2 ⟨rfl, ⟨m6, rfl⟩⟩
                rw [← HCH.out]
                have HX5 := HX.out.drewN (m3 + m4 + m5 + m6)
                have HXY := Aside0.mk HX5
                obtain ⟨v, c0, c1, c2, c3, c4, fz⟩ := HX5.cells
                clear HX5
                go_wp2_with fail
                go_ret2
                rw [HEV.out]
                refine ⟨rfl, ?_, ?_⟩
                · have := HXY.out.set4 (ch == 123)
                  simpa [hun'] using this
                · exact HXY.out.bset (pw_below_drewN (Below.refl _ _) _) 4 _
            · have hnb : decide (d < 0) = false := decide_eq_false hneg
              go_wp2_with fail
              go_roundg (4 - (j + 1))
              case measure => have := HJ.out; omega
              case rel =>
                refine ⟨j + 1, 16 * a + d, rfl, by go_num, ⟨by omega, rfl, by omega, ?_, ?_⟩, by repeat (first | exact ⟨_, rfl⟩ | exact Drawn0.refl _ | apply Drawn0.step)⟩
                · have := HJ.out.2.2.2.1
                  rw [Int.pow_succ]; omega
                · have := HJ.out.2.2.2.2
                  rw [HRUN.out, if_neg (by omega)] at this
                  exact this
          · obtain rfl : j = 4 := by omega
            have hjb : decide (at_ + 2 + 4 < at_ + 6) = false := decide_eq_false (by omega)
            have hRa : R = .ok a := by
              have := HJ.out.2.2.2.2
              simpa [hexs] using this.symm
            have hEv : E = if 55296 ≤ a ∧ a < 57344 then (⟨#[]⟩, 0, true) else (Utf8.encode a, 6, a == 0) := by
              rw [HE.out]; unfold esc
              rw [← HC.out, HM.out, HU.out]
              simp only [ne_eq, not_true_eq_false, if_false]
              rw [← HR.out, hRa]
            have HEV := Aside0.mk hEv
            have ha2 : a < 65536 := ha1.1
            clear hRa ha1 hEv
            have HX4 := HX.out.drewN m3
            have HXX := Aside0.mk HX4
            obtain ⟨v, c0, c1, c2, c3, c4, fz⟩ := HX4.cells
            clear HX4
            by_cases hsur : 55296 ≤ a ∧ a < 57344
            · have b1 : decide (a ≥ 55296) = true := decide_eq_true hsur.1
              have b2 : decide (a < 57344) = true := decide_eq_true hsur.2
              have hEV := HEV.out
              rw [if_pos hsur] at hEV
              have HEV2 := Aside0.mk hEV
              clear hEV
              go_wp2_with fail
              go_ret2
              rw [HEV2.out]
              refine ⟨rfl, ?_, ?_⟩
              · have := HXX.out.set4 true
                simpa using this
              · exact HXX.out.bset (pw_below_drewN (Below.refl _ _) _) 4 _
            · have hEV := HEV.out
              rw [if_neg hsur] at hEV
              have HEV2 := Aside0.mk hEV
              clear hEV
              by_cases h1 : 55296 ≤ a
              · have b1 : decide (a ≥ 55296) = true := decide_eq_true h1
                have b2 : decide (a < 57344) = false := decide_eq_false (by omega)
                have b3 : (a == 0) = false := by simp; omega
                clear hsur
                by_cases hun : x.unsure = true
                · rw [hun] at c4
                  go_wp2_with fail
                  refine (enc_any a _ ha0 (by omega)).mono ?_
                  rintro e w2 ⟨rfl, hb2⟩
                  have HB2 := Aside0.mk hb2
                  clear hb2
                  go_wp2_with fail
                  go_ret2
                  rw [HEV2.out]
                  refine ⟨rfl, ?_, ?_⟩
                  · have := (HXX.out.set4 (x.unsure || (a == 0))).below (by simpa [hun, b3] using HB2.out)
                    exact this
                  · exact below_then (HXX.out.bset (pw_below_drewN (Below.refl base _) _) 4 _) (Nat.le_trans hbase (HXX.out.bset (pw_below_drewN (Below.refl base _) _) 4 _).size) HB2.out
                · have hun : x.unsure = false := by simpa using hun
                  rw [hun] at c4
                  go_wp2_with fail
                  refine (enc_any a _ ha0 (by omega)).mono ?_
                  rintro e w2 ⟨rfl, hb2⟩
                  have HB2 := Aside0.mk hb2
                  clear hb2
                  go_wp2_with fail
                  go_ret2
                  rw [HEV2.out]
                  refine ⟨rfl, ?_, ?_⟩
                  · have := (HXX.out.set4 (x.unsure || (a == 0))).below (by simpa [hun, b3] using HB2.out)
                    exact this
                  · exact below_then (HXX.out.bset (pw_below_drewN (Below.refl base _) _) 4 _) (Nat.le_trans hbase (HXX.out.bset (pw_below_drewN (Below.refl base _) _) 4 _).size) HB2.out
              · have b1 : decide (a ≥ 55296) = false := decide_eq_false h1
                clear hsur
                by_cases h0 : a = 0
                · subst h0
                  have b3 : ((0 : Int) == 0) = true := rfl
                  by_cases hun : x.unsure = true
                  · rw [hun] at c4
                    go_wp2_with fail
                    refine (enc_any 0 _ (by omega) (by omega)).mono ?_
                    rintro e w2 ⟨rfl, hb2⟩
                    have HB2 := Aside0.mk hb2
                    clear hb2
                    go_wp2_with fail
                    go_ret2
                    rw [HEV2.out]
                    refine ⟨rfl, ?_, ?_⟩
                    · have := (HXX.out.set4 (x.unsure || ((0 : Int) == 0))).below (by simpa [hun, b3] using HB2.out)
                      exact this
                    · exact below_then (HXX.out.bset (pw_below_drewN (Below.refl base _) _) 4 _) (Nat.le_trans hbase (HXX.out.bset (pw_below_drewN (Below.refl base _) _) 4 _).size) HB2.out
                  · have hun : x.unsure = false := by simpa using hun
                    rw [hun] at c4
                    go_wp2_with fail
                    refine (enc_any 0 _ (by omega) (by omega)).mono ?_
                    rintro e w2 ⟨rfl, hb2⟩
                    have HB2 := Aside0.mk hb2
                    clear hb2
                    go_wp2_with fail
                    go_ret2
                    rw [HEV2.out]
                    refine ⟨rfl, ?_, ?_⟩
                    · have := (HXX.out.set4 (x.unsure || ((0 : Int) == 0))).below (by simpa [hun, b3] using HB2.out)
                      exact this
                    · exact below_then (HXX.out.bset (pw_below_drewN (Below.refl base _) _) 4 _) (Nat.le_trans hbase (HXX.out.bset (pw_below_drewN (Below.refl base _) _) 4 _).size) HB2.out
                · have b3 : (a == 0) = false := by simp [h0]
                  by_cases hun : x.unsure = true
                  · rw [hun] at c4
                    go_wp2_with fail
                    refine (enc_any a _ ha0 (by omega)).mono ?_
                    rintro e w2 ⟨rfl, hb2⟩
                    have HB2 := Aside0.mk hb2
                    clear hb2
                    go_wp2_with fail
                    go_ret2
                    rw [HEV2.out]
                    refine ⟨rfl, ?_, ?_⟩
                    · have := (HXX.out.set4 (x.unsure || (a == 0))).below (by simpa [hun, b3] using HB2.out)
                      exact this
                    · exact below_then (HXX.out.bset (pw_below_drewN (Below.refl base _) _) 4 _) (Nat.le_trans hbase (HXX.out.bset (pw_below_drewN (Below.refl base _) _) 4 _).size) HB2.out
                  · have hun : x.unsure = false := by simpa using hun
                    rw [hun] at c4
                    go_wp2_with fail
                    refine (enc_any a _ ha0 (by omega)).mono ?_
                    rintro e w2 ⟨rfl, hb2⟩
                    have HB2 := Aside0.mk hb2
                    clear hb2
                    go_wp2_with fail
                    go_ret2
                    rw [HEV2.out]
                    refine ⟨rfl, ?_, ?_⟩
                    · have := (HXX.out.set4 (x.unsure || (a == 0))).below (by simpa [hun, b3] using HB2.out)
                      exact this
                    · exact below_then (HXX.out.bset (pw_below_drewN (Below.refl base _) _) 4 _) (Nat.le_trans hbase (HXX.out.bset (pw_below_drewN (Below.refl base _) _) 4 _).size) HB2.out
      · have hub : (c != 117) = true := by simp [hu]
        have hEv : E = (⟨#[]⟩, 0, false) := by
          rw [HE.out]; unfold esc; rw [← HC.out, HM.out]; simp [hu]
        have HEV := Aside0.mk hEv
        clear hEv hu
        go_wp2_with fail
        go_ret2
        rw [HEV.out]
        exact ⟨rfl, by simpa using HX.out.drewN m2, pw_below_drewN (Below.refl _ _) _⟩
end Go.Proofs.YtbobbognjmofdaaGreatDoor.Lex
