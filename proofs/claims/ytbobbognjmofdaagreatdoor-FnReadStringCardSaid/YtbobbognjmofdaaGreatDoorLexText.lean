import Derived.Test.YtbobbognjmofdaaGreatDoorLexEsc
namespace Go.Proofs.YtbobbognjmofdaaGreatDoor.Lex
open Go.RowKit Go.Proofs.YtbobbognjmofdaaGreatDoorW.PrintWords Go.Proofs.YtbobbognjmofdaaGreatDoorW.PrintLast Go.Proofs.YtbobbognjmofdaaGreatDoorW.PrintMore
open Go.Proofs.YtbobbognjmofdaaGreatDoor.Ptext
set_option linter.unusedVariables false
set_option linter.unusedSimpArgs false
/-- The code point at a place, and how many bytes it has; no byte: none. -/
def ptS (s : ByteArray) (p : Int) : Int × Int := (spec_Point.f 12 s p).getD (0, 0)
def isSrc (c : Int) : Bool := c == 9 || c == 10 || c == 13 || decide (c ≥ 32)
theorem src_tells (c : Int) : spec_source.f c = some (isSrc c, decide (c ≤ 65535)) := by
  unfold spec_source.f isSrc
  by_cases h1 : c = 9
  · simp [h1]
  by_cases h2 : c = 10
  · simp [h2]
  by_cases h3 : c = 13
  · simp [h3]
  simp [h1, h2, h3]
/-- What a string says: where it ends and its value, or none; and whether that is not sure. -/
def txt (s : ByteArray) : Nat → Int → ByteArray → Bool → Option (Int × ByteArray) × Bool
  | 0, _, _, u => (none, u)
  | k + 1, p, o, u =>
    if (s.size : Int) ≤ p then (none, u)
    else if bt s p = 34 then (some (p + 1, o), u)
    else if bt s p = 10 ∨ bt s p = 13 then (none, u)
    else if bt s p = 92 then
      if (esc s p).2.1 = 0 then (none, u || (esc s p).2.2) else txt s k (p + (esc s p).2.1) (o ++ (esc s p).1) (u || (esc s p).2.2)
    else if (ptS s p).2 = 0 then (none, true)
    else if isSrc (ptS s p).1 = false then (none, u)
    else txt s k (p + (ptS s p).2) (o ++ s.extract p.toNat (p + (ptS s p).2).toNat) (u || decide (65535 < (ptS s p).1))
theorem esc_facts (s : ByteArray) (p : Int) : (esc s p).1.size ≤ 4 ∧ ((esc s p).2.1 = 0 ∨ 2 ≤ (esc s p).2.1 ∧ (esc s p).2.1 ≤ 6) := by
  unfold esc
  split
  · rename_i t ht
    refine ⟨?_, .inr (by simp)⟩
    unfold escText at ht
    (repeat' split at ht) <;> first | (simp only [Option.some.injEq] at ht; subst ht; decide) | cases ht
  · split
    · exact ⟨Nat.zero_le _, .inl rfl⟩
    · split
      · exact ⟨Nat.zero_le _, .inl rfl⟩
      · split
        · exact ⟨Nat.zero_le _, .inl rfl⟩
        · exact ⟨encode_size_le _, .inr (by simp)⟩
def LS.after (x : LS) (r : Option (Int × ByteArray) × Bool) : LS :=
  match r.1 with
  | some q => { x with at_ := q.1, out := x.out ++ [⟨18, q.2, x.at_, q.1⟩], unsure := r.2 }
  | none => { x with bad := true, unsure := r.2 }
set_option maxRecDepth 4000 in
set_option maxHeartbeats 1000000 in
theorem text_any (base g : Nat) (x : LS) (w : World) (h : Lx w base g x) (hbase : base ≤ w.heap.size) (hi : 0 ≤ x.at_) (hi2 : x.at_ ≤ x.s.size) (hs : x.s.size ≤ 2000) (hl : (x.out.length + 1) * 40 ≤ 140737488355328)
   (hpt : ∀ p : Int, 0 ≤ p → p < x.s.size → spec_Point.f 12 x.s p = some (ptS x.s p) ∧ ((ptS x.s p).2 = 0 ∨ 1 ≤ (ptS x.s p).2 ∧ (ptS x.s p).2 ≤ 4 ∧ p + (ptS x.s p).2 ≤ x.s.size)) :
    Calls Tryz.prog 33 #[.pointer (some ⟨g, 0, none⟩)] w fun e w' => e = .returned (.tuple #[]) ∧ Lx w' base g (x.after (txt x.s (x.s.size + 1) (x.at_ + 1) ⟨#[]⟩ x.unsure)) ∧ Below base w w' := by
  have HX := Aside0.mk h
  have HPT := Aside0.mk hpt
  obtain ⟨v, c0, c1, c2, c3, c4, fz⟩ := h.cells
  clear h hpt
  obtain ⟨R, hR⟩ : ∃ R, R = txt x.s (x.s.size + 1) (x.at_ + 1) ⟨#[]⟩ x.unsure := ⟨_, rfl⟩
  rw [← hR]
  have HR := Aside0.mk hR
  clear hR
  go_enter Tryz.func33, Tryz.ntmps33
  go_wp2_with fail
  clear c0 c1 c2 c3 c4 fz
  go_loopg [2, 3] (x.s.size + 1) (fun kq v2 v3 wr => ∃ (p : Int) (o : ByteArray) (u : Bool), v2 = .string o ∧ v3 = .int .i64 p ∧ Aside0 (1 ≤ p ∧ p ≤ 100000 ∧ (x.s.size : Int) < p + kq ∧ (o.size : Int) ≤ 4 * p ∧ txt x.s kq p o u = R ∧ Lx wr base g { x with unsure := u } ∧ Below base w wr))
  case atStart => exact ⟨x.at_ + 1, ⟨#[]⟩, x.unsure, rfl, rfl, ⟨by omega, by omega, by omega, by show ((0 : Nat) : Int) ≤ _; omega, HR.out.symm, HX.out, Below.refl _ _⟩⟩
  case round =>
    obtain ⟨p, o, u, rfl, rfl, HA⟩ := hrel
    have hp1 := HA.out.1
    have hp2 := HA.out.2.1
    have hx := HA.out.2.2.2.2.2.1
    have HL := Aside0.mk hx
    have HBB := Aside0.mk HA.out.2.2.2.2.2.2
    obtain ⟨v, c0, c1, c2, c3, c4, fz⟩ := hx.cells
    clear hx
    by_cases hlt : p < (x.s.size : Int)
    · have hltb : decide (p < (x.s.size : Int)) = true := decide_eq_true hlt
      have hb := bt_at x.s p
      obtain ⟨ch, hch⟩ : ∃ ch, ch = bt x.s p := ⟨_, rfl⟩
      rw [← hch] at hb
      have HCH := Aside0.mk hch
      obtain ⟨k, rfl⟩ : ∃ k, gk = k + 1 := ⟨gk - 1, by have := HA.out.2.2.1; omega⟩
      have hrun := HA.out.2.2.2.2.1
      rw [txt, if_neg (by omega), ← hch] at hrun
      have HRUN := Aside0.mk hrun
      clear hrun hch
      by_cases e1 : ch = 34
      · have e1b : (ch == 34) = true := by simp [e1]
        have hfin : R = (some (p + 1, o), u) := by rw [← HRUN.out, if_pos e1]
        have HF := Aside0.mk hfin
        clear hfin
        go_wp2_with fail
        refine (add_any base g { x with unsure := u } 18 (p + 1) o wr HL.out (Nat.le_trans hbase HBB.out.size) hl).mono ?_
        rintro e w2 ⟨rfl, hX2, hB2⟩
        have HX2 := Aside0.mk hX2
        have HB2 := Aside0.mk hB2
        clear hX2 hB2
        go_wp2_with fail
        first | go_end0 | ((try simp only [Exit.inBlock, Exit.then]); refine bodyPost_ret (results_none rfl _ _ _) rfl ?_)
        rw [HF.out]
        exact ⟨rfl, HX2.out, HBB.out.trans HB2.out⟩
      have e1b : (ch == 34) = false := by simp [e1]
      have hr1 := HRUN.out
      rw [if_neg e1] at hr1
      clear HRUN
      have HRUN := Aside0.mk hr1
      clear hr1 e1
      by_cases e2 : ch = 10 ∨ ch = 13
      · have hfin : R = (none, u) := by rw [← HRUN.out, if_pos e2]
        have HF := Aside0.mk hfin
        clear hfin
        by_cases e3 : ch = 10
        · have e3b : (ch == 10) = true := by simp [e3]
          clear e2 e3
          go_wp2_with fail
          refine (fail_any base g { x with unsure := u } _ HL.out).mono ?_
          rintro e w2 ⟨rfl, hX2, hB2⟩
          have HX2 := Aside0.mk hX2
          have HB2 := Aside0.mk hB2
          clear hX2 hB2
          go_wp2_with fail
          first | go_end0 | ((try simp only [Exit.inBlock, Exit.then]); refine bodyPost_ret (results_none rfl _ _ _) rfl ?_)
          rw [HF.out]
          exact ⟨rfl, HX2.out, HBB.out.trans HB2.out⟩
        · have e3b : (ch == 10) = false := by simp [e3]
          have e3c : (ch == 13) = true := by simp; omega
          clear e2 e3
          go_wp2_with fail
          refine (fail_any base g { x with unsure := u } _ HL.out).mono ?_
          rintro e w2 ⟨rfl, hX2, hB2⟩
          have HX2 := Aside0.mk hX2
          have HB2 := Aside0.mk hB2
          clear hX2 hB2
          go_wp2_with fail
          first | go_end0 | ((try simp only [Exit.inBlock, Exit.then]); refine bodyPost_ret (results_none rfl _ _ _) rfl ?_)
          rw [HF.out]
          exact ⟨rfl, HX2.out, HBB.out.trans HB2.out⟩
      have e2b : (ch == 10) = false := by simp; omega
      have e3b : (ch == 13) = false := by simp; omega
      have hr2 := HRUN.out
      rw [if_neg e2] at hr2
      clear HRUN
      have HRUN := Aside0.mk hr2
      clear hr2 e2
      by_cases e4 : ch = 92
      · have hr3 := HRUN.out
        rw [if_pos e4] at hr3
        have HRUN3 := Aside0.mk hr3
        clear hr3
        have e4b : (ch == 92) = true := by simp [e4]
        clear e4
        have hef := esc_facts x.s p
        obtain ⟨⟨t, n, e⟩, hE⟩ : ∃ E, E = esc x.s p := ⟨_, rfl⟩
        rw [← hE] at hef
        have HE := Aside0.mk hE
        clear hE
        obtain ⟨ht4, hn6⟩ := hef
        have ht4 : t.size ≤ 4 := ht4
        have hn6 : n = 0 ∨ 2 ≤ n ∧ n ≤ 6 := hn6
        have hos : (o.size : Int) ≤ 4 * p := HA.out.2.2.2.1
        have hcat : o.size + t.size ≤ 9223372036854775807 := by omega
        go_wp2_with fail
        refine (esc_any base g { x with unsure := u } p wr HL.out (Nat.le_trans hbase HBB.out.size) (by omega) (by omega)).mono ?_
        rintro e0 w2 ⟨rfl, hX2, hB2⟩
        rw [← HE.out] at hX2
        rw [← HE.out]
        have HX2 := Aside0.mk hX2
        have HBX := Aside0.mk (HBB.out.trans hB2)
        clear hX2 hB2
        by_cases hz : n = 0
        · have hzb : (n == 0) = true := by simp [hz]
          have hfin : R = (none, u || e) := by rw [← HRUN3.out, ← HE.out]; exact if_pos hz
          have HF := Aside0.mk hfin
          clear hfin hz hn6
          go_wp2_with fail
          refine (fail_any base g { x with unsure := u || e } _ HX2.out).mono ?_
          rintro e w3 ⟨rfl, hX3, hB2⟩
          have HX3 := Aside0.mk hX3
          have HB2 := Aside0.mk hB2
          clear hX3 hB2
          go_wp2_with fail
          first | go_end0 | ((try simp only [Exit.inBlock, Exit.then]); refine bodyPost_ret (results_none rfl _ _ _) rfl ?_)
          rw [HF.out]
          exact ⟨rfl, HX3.out, HBX.out.trans HB2.out⟩
        · have hzb : (n == 0) = false := by simp [hz]
          have hn2 : 2 ≤ n := by omega
          have hn7 : n ≤ 6 := by omega
          have hrec : txt x.s k (p + n) (o ++ t) (u || e) = R := by
            rw [← HRUN3.out, ← HE.out]; exact (if_neg hz).symm
          have HREC := Aside0.mk hrec
          clear hrec hz hn6
          go_wp2_with fail
          go_roundg k
          case measure => omega
          case rel =>
            refine ⟨p + n, o ++ t, u || e, rfl, rfl, ⟨by omega, by omega, by have := HA.out.2.2.1; omega, by rw [ByteArray.size_append]; push_cast; omega, HREC.out, HX2.out, HBX.out⟩⟩
      have e4b : (ch == 92) = false := by simp [e4]
      have hr3 := HRUN.out
      rw [if_neg e4] at hr3
      clear HRUN
      have HRUN := Aside0.mk hr3
      clear hr3 e4
      obtain ⟨hpt, hpn⟩ := HPT.out p (by omega) hlt
      obtain ⟨⟨pc, n⟩, hP⟩ : ∃ P, P = ptS x.s p := ⟨_, rfl⟩
      rw [← hP] at hpt hpn
      have HP := Aside0.mk hP
      have HPTT := Aside0.mk hpt
      have hpn : n = 0 ∨ 1 ≤ n ∧ n ≤ 4 ∧ p + n ≤ (x.s.size : Int) := hpn
      clear hP hpt
      have hos : (o.size : Int) ≤ 4 * p := HA.out.2.2.2.1
      go_wp2_with fail
      refine (spec_Point.calls 12 x.s p pc n _ HPTT.out).mono ?_
      rintro e0 w2 ⟨rfl, ⟨m, rfl⟩⟩
      go_wp2_with fail
      refine (spec_source.calls pc _ _ _ (src_tells pc)).mono ?_
      rintro e0 w2 ⟨rfl, ⟨m2, rfl⟩⟩
      have HX4 := HL.out.drewN (m + m2)
      have HXX := Aside0.mk HX4
      obtain ⟨v, c0, c1, c2, c3, c4, fz⟩ := HX4.cells
      clear HX4
      by_cases hz : n = 0
      · have hzb : (n == 0) = true := by simp [hz]
        have hfin : R = (none, true) := by rw [← HRUN.out, ← HP.out]; exact if_pos hz
        have HF := Aside0.mk hfin
        clear hfin hz hpn
        rcases Bool.eq_false_or_eq_true u with hu | hu
        all_goals
          rw [hu] at c4
          cases hsr : isSrc pc
          all_goals
            go_wp2_with fail
            refine (fail_any base g { x with unsure := true } _ (by have := HXX.out.set4 true; exact this)).mono ?_
            rintro e0 w3 ⟨rfl, hX3, hB3⟩
            have HX3 := Aside0.mk hX3
            have HB3 := Aside0.mk hB3
            clear hX3 hB3
            go_wp2_with fail
            first | go_end0 | ((try simp only [Exit.inBlock, Exit.then]); refine bodyPost_ret (results_none rfl _ _ _) rfl ?_)
            rw [HF.out]
            exact ⟨rfl, HX3.out, (HXX.out.bset (HBB.out.trans (pw_below_drewN (Below.refl _ _) _)) 4 _).trans HB3.out⟩
      · have hzb : (n == 0) = false := by simp [hz]
        cases hsr : isSrc pc with
        | false =>
          have hfin : R = (none, u) := by
            rw [← HRUN.out, ← HP.out]
            show (if n = 0 then _ else if isSrc pc = false then _ else _) = _
            rw [if_neg hz, if_pos hsr]
          have HF := Aside0.mk hfin
          clear hfin hz hpn
          rcases Bool.eq_false_or_eq_true u with hu | hu
          all_goals
            subst hu
            go_wp2_with fail
          · refine (fail_any base g { x with unsure := true } _ (by have := HXX.out.set4 true; exact this)).mono ?_
            rintro e0 w3 ⟨rfl, hX3, hB3⟩
            have HX3 := Aside0.mk hX3
            have HB3 := Aside0.mk hB3
            clear hX3 hB3
            go_wp2_with fail
            first | go_end0 | ((try simp only [Exit.inBlock, Exit.then]); refine bodyPost_ret (results_none rfl _ _ _) rfl ?_)
            rw [HF.out]
            exact ⟨rfl, HX3.out, (HXX.out.bset (HBB.out.trans (pw_below_drewN (Below.refl _ _) _)) 4 _).trans HB3.out⟩
          · refine (fail_any base g { x with unsure := false } _ (by have := HXX.out.set4 false; exact this)).mono ?_
            rintro e0 w3 ⟨rfl, hX3, hB3⟩
            have HX3 := Aside0.mk hX3
            have HB3 := Aside0.mk hB3
            clear hX3 hB3
            go_wp2_with fail
            first | go_end0 | ((try simp only [Exit.inBlock, Exit.then]); refine bodyPost_ret (results_none rfl _ _ _) rfl ?_)
            rw [HF.out]
            exact ⟨rfl, HX3.out, (HXX.out.bset (HBB.out.trans (pw_below_drewN (Below.refl _ _) _)) 4 _).trans HB3.out⟩
        | true =>
          have hn1 : 1 ≤ n := by omega
          have hn4 : n ≤ 4 := by omega
          have hn5 : p + n ≤ (x.s.size : Int) := by omega
          obtain ⟨q, hq⟩ : ∃ q, q = x.s.extract p.toNat (p + n).toNat := ⟨_, rfl⟩
          have hqs : q.size ≤ 4 := by rw [hq, ByteArray.size_extract]; omega
          have ks := fun W => slice_str x.s p (p + n) (by omega) (by omega) hn5 W
          rw [← hq] at ks
          have hcat : o.size + q.size ≤ 9223372036854775807 := by omega
          have hrec : txt x.s k (p + n) (o ++ q) (u || decide (65535 < pc)) = R := by
            rw [← HRUN.out, ← HP.out, hq]
            show _ = (if n = 0 then _ else if isSrc pc = false then _ else _)
            rw [if_neg hz, if_neg (by simp [hsr])]
          have HREC := Aside0.mk hrec
          clear hrec hz hpn hq
          rcases Bool.eq_false_or_eq_true u with hu | hu
          all_goals
            subst hu
            go_wp2_with fail
            go_roundg k
            case measure => omega
            case rel =>
              refine ⟨p + n, o ++ q, _, rfl, rfl, ⟨by omega, by omega, by have := HA.out.2.2.1; omega, by rw [ByteArray.size_append]; push_cast; omega, HREC.out, ?_, HXX.out.bset (HBB.out.trans (pw_below_drewN (Below.refl _ _) _)) 4 _⟩⟩
              have hnot : (!decide (pc ≤ 65535)) = decide (65535 < pc) := by by_cases h : pc ≤ 65535 <;> simp [h] <;> omega
              first
              | exact HXX.out.set4 true
              | (rw [hnot]; exact HXX.out.set4 (decide (65535 < pc)))
    · have hltb : decide (p < (x.s.size : Int)) = false := decide_eq_false hlt
      have hfin : R = (none, u) := by
        rw [← HA.out.2.2.2.2.1]
        cases gk with
        | zero => rfl
        | succ k => rw [txt, if_pos (by omega)]
      have HF := Aside0.mk hfin
      clear hfin
      go_wp2_with fail
      refine (fail_any base g { x with unsure := u } _ HL.out).mono ?_
      rintro e w2 ⟨rfl, hX2, hB2⟩
      have HX2 := Aside0.mk hX2
      have HB2 := Aside0.mk hB2
      clear hX2 hB2
      go_wp2_with fail
      first | go_end0 | ((try simp only [Exit.inBlock, Exit.then]); refine bodyPost_ret (results_none rfl _ _ _) rfl ?_)
      rw [HF.out]
      exact ⟨rfl, HX2.out, HBB.out.trans HB2.out⟩
end Go.Proofs.YtbobbognjmofdaaGreatDoor.Lex
