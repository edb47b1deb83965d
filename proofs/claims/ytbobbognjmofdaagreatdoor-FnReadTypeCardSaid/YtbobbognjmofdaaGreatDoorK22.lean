import Derived.Test.YtbobbognjmofdaaGreatDoorK21
import Derived.Test.YtbobbognjmofdaaGreatDoorK09
section
/-
  The reference's step over what comes next, walked.
-/
namespace Go.Proofs.YtbobbognjmofdaaGreatDoor.Lex
open Go.RowKit Go.Proofs.YtbobbognjmofdaaGreatDoorW.PrintWords Go.Proofs.YtbobbognjmofdaaGreatDoorW.PrintLast Go.Proofs.YtbobbognjmofdaaGreatDoorW.PrintMore
open Go.Proofs.YtbobbognjmofdaaGreatDoor.Ptext
set_option linter.unusedVariables false
set_option linter.unusedSimpArgs false
set_option maxRecDepth 4000 in
set_option maxHeartbeats 40000000 in
theorem token_any (base g : Nat) (x : LS) (w : World) (h : Lx w base g x) (hbase : base ≤ w.heap.size) (hi : 0 ≤ x.at_) (hi2 : x.at_ < x.s.size) (hs : x.s.size ≤ 2000) (hl : (x.out.length + 1) * 40 ≤ 140737488355328)
   (hpt : ∀ p : Int, 0 ≤ p → p < x.s.size → spec_Point.f 12 x.s p = some (ptS x.s p) ∧ ((ptS x.s p).2 = 0 ∨ 1 ≤ (ptS x.s p).2 ∧ (ptS x.s p).2 ≤ 4 ∧ p + (ptS x.s p).2 ≤ x.s.size)) :
    Calls Tryz.prog 37 #[.pointer (some ⟨g, 0, none⟩)] w fun e w' => e = .returned (.tuple #[]) ∧ Lx w' base g (x.stp (stp x.s x.at_ x.unsure)) ∧ Below base w w' := by
  have HX := Aside0.mk h
  have HPT := Aside0.mk hpt
  obtain ⟨v, c0, c1, c2, c3, c4, fz⟩ := h.cells
  clear h hpt
  obtain ⟨S, hS⟩ : ∃ S, S = stp x.s x.at_ x.unsure := ⟨_, rfl⟩
  rw [← hS]
  unfold stp at hS
  have hbx := bt_at x.s x.at_
  obtain ⟨c, hc⟩ : ∃ c, c = bt x.s x.at_ := ⟨_, rfl⟩
  rw [← hc] at hbx hS
  have hcr := bt_range x.s x.at_
  rw [← hc] at hcr
  have HC := Aside0.mk hc
  have HS := Aside0.mk hS
  clear hc hS
  obtain ⟨p, hp⟩ : ∃ p, p = x.at_ := ⟨_, rfl⟩
  rw [← hp] at hbx hi hi2
  have HP := Aside0.mk hp
  have hsp := HS.out
  rw [← hp] at hsp
  clear HS
  have HS := Aside0.mk hsp
  rw [← hp] at c1
  clear hsp hp
  have hq1 := starts_tells x.s [239, 187, 191] p (by omega) (by omega) (by omega) (by simp) (by decide) (by decide)
  have hq2 := starts_tells x.s [46, 46, 46] p (by omega) (by omega) (by omega) (by simp) (by decide) (by decide)
  have hq3 := starts_tells x.s [34, 34, 34] p (by omega) (by omega) (by omega) (by simp) (by decide) (by decide)
  rw [st3_L] at hq1 hq2 hq3
  obtain ⟨b1, hb1⟩ : ∃ b, b = st3 x.s p ((239 : UInt8).toNat : Int) ((187 : UInt8).toNat : Int) ((191 : UInt8).toNat : Int) := ⟨_, rfl⟩
  obtain ⟨b2, hb2⟩ : ∃ b, b = st3 x.s p ((46 : UInt8).toNat : Int) ((46 : UInt8).toNat : Int) ((46 : UInt8).toNat : Int) := ⟨_, rfl⟩
  obtain ⟨b3, hb3⟩ : ∃ b, b = st3 x.s p ((34 : UInt8).toNat : Int) ((34 : UInt8).toNat : Int) ((34 : UInt8).toNat : Int) := ⟨_, rfl⟩
  rw [← hb1] at hq1
  rw [← hb2] at hq2
  rw [← hb3] at hq3
  have hsp := HS.out
  rw [show st3 x.s p 239 187 191 = b1 from hb1.symm, show st3 x.s p 46 46 46 = b2 from hb2.symm, show st3 x.s p 34 34 34 = b3 from hb3.symm] at hsp
  clear HS
  have HS := Aside0.mk hsp
  have HQ1 := Aside0.mk hq1
  have HQ2 := Aside0.mk hq2
  have HQ3 := Aside0.mk hq3
  clear hsp hb1 hb2 hb3 hq1 hq2 hq3
  go_enter Tryz.func37, Tryz.ntmps37
  go_wp2_with fail
  go_region
  have HW1 : Aside0 (Lx w.drew base g x) := ⟨HX.out.drew⟩
  have HB1 : Aside0 (Below base w w.drew) := ⟨below_drew1 (Below.refl _ _)⟩
  clear c0 c1 c2 c3 c4 fz v
  obtain ⟨w1, hw1⟩ : ∃ w1, w1 = w.drew := ⟨_, rfl⟩
  rw [← hw1] at HW1 HB1
  rw [← hw1]
  clear hw1
  obtain ⟨v, c0, c1, c2, c3, c4, fz⟩ := HW1.out.cells
  rw [← HP.out] at c1
  by_cases e1 : c = 32 ∨ c = 9 ∨ c = 10 ∨ c = 13 ∨ c = 44
  · have hfin : S = .skip (p + 1) x.unsure := by rw [HS.out, if_pos e1]
    have HF := Aside0.mk hfin
    clear hfin
    go_upto_region 2 with fail
    go_cut [15] (fun v15 wc => v15 = .bool true ∧ wc = w1)
    case first =>
      rcases e1 with e | e | e | e | e
      all_goals
        subst e
        go_wp2_with fail
        go_meet
        case rel => exact ⟨rfl, rfl⟩
    case rest =>
      obtain ⟨rfl, rfl⟩ := hcut
      clear e1
      go_wp2_with fail
      first | go_end0 | ((try simp only [Exit.inBlock, Exit.then]); refine bodyPost_ret (results_none rfl _ _ _) rfl ?_)
      rw [HF.out]
      exact ⟨rfl, HW1.out.set1 _, HW1.out.bset HB1.out 1 _⟩
  have hs1 := HS.out
  rw [if_neg e1] at hs1
  clear HS
  have HS := Aside0.mk hs1
  have n1 : (c == 32) = false := by simp; omega
  have n2 : (c == 9) = false := by simp; omega
  have n3 : (c == 10) = false := by simp; omega
  have n4 : (c == 13) = false := by simp; omega
  have n5 : (c == 44) = false := by simp; omega
  clear hs1 e1
  go_upto_region 4 with fail
  go_cut [41] (fun vb wc => vb = .bool b1 ∧ Drawn0 w1 wc)
  case first =>
    go_region_with (go_at_call 58; refine (PFnTokens.spec_starts.calls x.s p _ b1 _ HQ1.out).mono ?_; rintro e0 w2 ⟨rfl, hdw⟩; have HDW := Aside0.mk hdw; clear hdw)
    all_goals
      (try go_wp2_with fail)
      go_meet
      case rel => exact ⟨rfl, by obtain ⟨m9, rfl⟩ := HDW.out; exact ⟨⟨1 + m9, World.drewN_drewN (w := w1) (n := 1) (m := m9)⟩⟩⟩
  case rest =>
  obtain ⟨rfl, hdw⟩ := hcut
  obtain ⟨w2, rfl⟩ : ∃ w9, w9 = wc := ⟨_, rfl⟩
  have HW2 : Aside0 (Lx w2 base g x) := by obtain ⟨m9, rfl⟩ := hdw; exact ⟨HW1.out.drewN m9⟩
  have HB2 : Aside0 (Below base w w2) := by obtain ⟨m9, rfl⟩ := hdw; exact ⟨pw_below_drewN HB1.out m9⟩
  clear hdw c0 c1 c2 c3 c4 fz v
  obtain ⟨v, c0, c1, c2, c3, c4, fz⟩ := HW2.out.cells
  rw [← HP.out] at c1
  cases b1 with
  | true =>
    have hfin : S = .skip (p + 3) true := by rw [HS.out, if_pos rfl]
    have HF := Aside0.mk hfin
    clear hfin
    have HL5 := Aside0.mk (HW2.out.set4 true)
    have HB5 := Aside0.mk (HW2.out.bset HB2.out 4 (.bool true))
    go_wp2_with fail
    first | go_end0 | ((try simp only [Exit.inBlock, Exit.then]); refine bodyPost_ret (results_none rfl _ _ _) rfl ?_)
    rw [HF.out]
    exact ⟨rfl, HL5.out.set1 _, HL5.out.bset HB5.out 1 _⟩
  | false =>
  have hs1 := HS.out
  rw [if_neg (by simp)] at hs1
  clear HS
  have HS := Aside0.mk hs1
  clear hs1
  by_cases e3 : c = 35
  · have hfin : S = cm x.s (x.s.size + 1) p x.unsure := by rw [HS.out, if_pos e3]
    have HF := Aside0.mk hfin
    have n6 : (c == 35) = true := by simp [e3]
    clear hfin e3
    go_wp2_with fail
    refine (comment_any base g x _ HW2.out (Nat.le_trans hbase HB2.out.size) (by rw [← HP.out]; exact hi) (by rw [← HP.out]; omega) hs HPT.out).mono ?_
    rintro e0 w3 ⟨rfl, hX, hB⟩
    have HX3 := Aside0.mk hX
    have HB3 := Aside0.mk (HB2.out.trans hB)
    clear hX hB
    go_wp2_with fail
    first | go_end0 | ((try simp only [Exit.inBlock, Exit.then]); refine bodyPost_ret (results_none rfl _ _ _) rfl ?_)
    rw [HF.out, HP.out]
    exact ⟨rfl, HX3.out, HB3.out⟩
  have hs1 := HS.out
  rw [if_neg e3] at hs1
  clear HS
  have HS := Aside0.mk hs1
  have n6 : (c == 35) = false := by simp [e3]
  clear hs1 e3
  go_upto_region 9 with fail
  go_cut [66] (fun vb wc => vb = .bool b2 ∧ Drawn0 w2 wc)
  case first =>
    go_region_with (go_at_call 58; refine (PFnTokens.spec_starts.calls x.s p _ b2 _ HQ2.out).mono ?_; rintro e0 w3 ⟨rfl, hdw⟩; have HDW := Aside0.mk hdw; clear hdw)
    all_goals
      (try go_wp2_with fail)
      go_meet
      case rel => exact ⟨rfl, by obtain ⟨m9, rfl⟩ := HDW.out; exact ⟨⟨1 + m9, World.drewN_drewN (w := w2) (n := 1) (m := m9)⟩⟩⟩
  case rest =>
  obtain ⟨rfl, hdw⟩ := hcut
  obtain ⟨w3, rfl⟩ : ∃ w9, w9 = wc := ⟨_, rfl⟩
  have HW3 : Aside0 (Lx w3 base g x) := by obtain ⟨m9, rfl⟩ := hdw; exact ⟨HW2.out.drewN m9⟩
  have HB3 : Aside0 (Below base w w3) := by obtain ⟨m9, rfl⟩ := hdw; exact ⟨pw_below_drewN HB2.out m9⟩
  clear hdw c0 c1 c2 c3 c4 fz v
  obtain ⟨v, c0, c1, c2, c3, c4, fz⟩ := HW3.out.cells
  rw [← HP.out] at c1
  cases b2 with
  | true =>
    have hfin : S = .tok 6 ⟨#[]⟩ (p + 3) x.unsure := by rw [HS.out, if_pos rfl]
    have HF := Aside0.mk hfin
    clear hfin
    go_wp2_with fail
    refine (add_any base g x 6 (p + 3) ⟨#[]⟩ _ HW3.out (Nat.le_trans hbase HB3.out.size) hl).mono ?_
    rintro e0 w4 ⟨rfl, hX, hB⟩
    have HX4 := Aside0.mk hX
    have HB4 := Aside0.mk (HB3.out.trans hB)
    clear hX hB
    go_wp2_with fail
    first | go_end0 | ((try simp only [Exit.inBlock, Exit.then]); refine bodyPost_ret (results_none rfl _ _ _) rfl ?_)
    rw [HF.out]
    exact ⟨rfl, HX4.out, HB4.out⟩
  | false =>
  have hs1 := HS.out
  rw [if_neg (by simp)] at hs1
  clear HS
  have HS := Aside0.mk hs1
  clear hs1
  go_wp2_with fail
  refine (PFnTokens.spec_sign.calls c _ _ (sgn_tells c)).mono ?_
  rintro e0 w4 ⟨rfl, hdw⟩
  have HW4 : Aside0 (Lx w4 base g x) := by obtain ⟨m9, rfl⟩ := hdw; exact ⟨HW3.out.drewN m9⟩
  have HB4 : Aside0 (Below base w w4) := by obtain ⟨m9, rfl⟩ := hdw; exact ⟨pw_below_drewN HB3.out m9⟩
  clear hdw c0 c1 c2 c3 c4 fz v
  obtain ⟨v, c0, c1, c2, c3, c4, fz⟩ := HW4.out.cells
  rw [← HP.out] at c1
  obtain ⟨sg, hsg⟩ : ∃ sg, sg = sgn c := ⟨_, rfl⟩
  have hs1 := HS.out
  rw [← hsg] at hs1
  rw [← hsg]
  clear HS
  have HS := Aside0.mk hs1
  have HSG := Aside0.mk hsg
  have HSGT := Aside0.mk (show PFnTokens.spec_sign.f c = some sg by rw [hsg]; exact sgn_tells c)
  clear hs1 hsg
  by_cases e3 : 0 < sg
  · have hfin : S = .tok sg ⟨#[]⟩ (p + 1) x.unsure := by rw [HS.out, if_pos e3]
    have HF := Aside0.mk hfin
    have n7 : decide (sg > 0) = true := decide_eq_true e3
    have hwr : IntKind.i64.wrap (p + 1) = p + 1 := by rw [i64_w]; unfold wrap64; omega
    clear hfin e3
    go_wp2_with fail
    go_region_with (first | (go_at_call 60; refine (PFnTokens.spec_sign.calls c sg _ HSGT.out).mono ?_; rintro e0 w8 ⟨rfl, hdw⟩; have HW8 : Aside0 (Lx w8 base g x) := (by obtain ⟨m9, rfl⟩ := hdw; exact ⟨HW4.out.drew.drewN m9⟩); have HB8 : Aside0 (Below base w w8) := (by obtain ⟨m9, rfl⟩ := hdw; exact ⟨pw_below_drewN (below_drew1 HB4.out) m9⟩); clear hdw c0 c1 c2 c3 c4 fz v; obtain ⟨v, c0, c1, c2, c3, c4, fz⟩ := HW8.out.cells; rw [← HP.out] at c1) | (go_at_call 53; refine (add_any base g x sg (p + 1) ⟨#[]⟩ _ HW8.out (Nat.le_trans hbase HB8.out.size) hl).mono ?_; rintro e0 w9 ⟨rfl, hX, hB⟩; have HX9 := Aside0.mk hX; have HB9 := Aside0.mk (HB8.out.trans hB); clear hX hB))
    all_goals
      (try go_wp2_with fail)
      first | go_end0 | ((try simp only [Exit.inBlock, Exit.then]); refine bodyPost_ret (results_none rfl _ _ _) rfl ?_)
      rw [HF.out]
      exact ⟨rfl, HX9.out, HB9.out⟩
  have hs1 := HS.out
  rw [if_neg e3] at hs1
  clear HS
  have HS := Aside0.mk hs1
  have n7 : decide (sg > 0) = false := decide_eq_false e3
  clear hs1 e3
  go_wp2_with fail
  refine (PFnTokens.spec_isBegin.calls c _ _ (isBg_tells c)).mono ?_
  rintro e0 w5 ⟨rfl, hdw⟩
  have HW5 : Aside0 (Lx w5 base g x) := by obtain ⟨m9, rfl⟩ := hdw; exact ⟨HW4.out.drewN m9⟩
  have HB5 : Aside0 (Below base w w5) := by obtain ⟨m9, rfl⟩ := hdw; exact ⟨pw_below_drewN HB4.out m9⟩
  clear hdw c0 c1 c2 c3 c4 fz v
  obtain ⟨v, c0, c1, c2, c3, c4, fz⟩ := HW5.out.cells
  rw [← HP.out] at c1
  cases hbg : isBg c with
  | true =>
    have hfin : S = .tok 15 (x.s.extract p.toNat (nme x.s p).toNat) (nme x.s p) x.unsure := by rw [HS.out, if_pos hbg]
    have HF := Aside0.mk hfin
    clear hfin
    obtain ⟨R, hR⟩ : ∃ R, R = nme x.s p := ⟨_, rfl⟩
    have hr1 := (nme_le x.s p).1
    have hr2 := (nme_le x.s p).2 (by omega)
    rw [← hR] at hr1 hr2
    have HR := Aside0.mk hR
    clear hR
    go_wp2_with fail
    clear c0 c1 c2 c3 c4 fz v
    go_loopg [3] ((x.s.size : Int) - p).toNat (fun kq v3 wr => ∃ (q : Int), v3 = .int .i64 q ∧ Aside0 (p ≤ q ∧ q ≤ 100000 ∧ kq = ((x.s.size : Int) - q).toNat ∧ nme x.s q = R ∧ Lx wr base g x ∧ Below base w wr))
    case atStart => exact ⟨p, rfl, ⟨by omega, by omega, rfl, HR.out.symm, HW5.out, HB5.out⟩⟩
    case round =>
      obtain ⟨q, rfl, HA⟩ := hrel
      have hq0 := HA.out.1
      have hq1 := HA.out.2.1
      have HL := Aside0.mk HA.out.2.2.2.2.1
      have HBB := Aside0.mk HA.out.2.2.2.2.2
      obtain ⟨d, hd⟩ : ∃ d, d = nx x.s q := ⟨_, rfl⟩
      have HD := Aside0.mk hd
      clear hd
      obtain ⟨bb, hbb⟩ : ∃ b, b = isNm d := ⟨_, rfl⟩
      have HBN := Aside0.mk hbb
      clear hbb
      go_upto_region 15 with fail
      go_cut [112] (fun vb wc => vb = .bool bb ∧ Drawn0 wr wc)
      case first =>
        go_wp2_with fail
        refine (next_any base g x q _ HL.out (by omega)).mono ?_
        rintro e0 w6 ⟨rfl, ⟨m6, rfl⟩⟩
        rw [← HD.out]
        go_wp2_with fail
        refine (PFnTokens.spec_isBegin.calls d _ _ (isBg_tells d)).mono ?_
        rintro e0 w7 ⟨rfl, ⟨m7, rfl⟩⟩
        have hnm : isNm d = (isBg d || isDg d) := rfl
        cases hx : isBg d with
        | true =>
          rw [hx] at hnm
          have h1 : bb = true := by rw [HBN.out, hnm]; rfl
          have H1 := Aside0.mk h1
          clear h1 hnm
          go_wp2_with fail
          go_meet
          case rel => exact ⟨by rw [H1.out], ⟨_, rfl⟩⟩
        | false =>
          rw [hx] at hnm
          have h1 : bb = isDg d := by rw [HBN.out, hnm]; rfl
          have H1 := Aside0.mk h1
          clear h1 hnm
          go_wp2_with fail
          refine (next_any base g x q _ (HL.out.drewN _) (by omega)).mono ?_
          rintro e0 w8 ⟨rfl, ⟨m8, rfl⟩⟩
          rw [← HD.out]
          go_wp2_with fail
          refine (PFnTokens.spec_isDigit.calls d _ _ (isDg_tells d)).mono ?_
          rintro e0 w8 ⟨rfl, ⟨m9, rfl⟩⟩
          go_wp2_with fail
          go_meet
          case rel => exact ⟨by rw [H1.out], ⟨_, rfl⟩⟩
      case rest =>
      obtain ⟨rfl, hdw⟩ := hcut
      obtain ⟨w9, rfl⟩ : ∃ w9, w9 = wc := ⟨_, rfl⟩
      have HW9 : Aside0 (Lx w9 base g x) := by obtain ⟨m9, rfl⟩ := hdw; exact ⟨HL.out.drewN m9⟩
      have HB9 : Aside0 (Below base w w9) := by obtain ⟨m9, rfl⟩ := hdw; exact ⟨pw_below_drewN HBB.out m9⟩
      clear hdw
      obtain ⟨v, c0, c1, c2, c3, c4, fz⟩ := HW9.out.cells
      rw [← HP.out] at c1
      cases hbb : bb with
      | true =>
        have hb2 := HBN.out
        rw [hbb] at hb2
        have hlt : q < (x.s.size : Int) := nx_in (by rw [← HD.out]; intro h0; rw [h0] at hb2; cases hb2)
        have hn : nme x.s (q + 1) = R := by rw [← HA.out.2.2.2.1, nme_eq x.s q, ← HD.out, if_pos hb2.symm]
        have HN := Aside0.mk hn
        clear hn hb2 hbb
        go_wp2_with fail
        go_roundg ((x.s.size : Int) - (q + 1)).toNat
        case measure => have := HA.out.2.2.1; omega
        case rel => exact ⟨q + 1, rfl, ⟨by omega, by omega, rfl, HN.out, HW9.out, HB9.out⟩⟩
      | false =>
        have hb2 := HBN.out
        rw [hbb] at hb2
        have hn : q = R := by rw [← HA.out.2.2.2.1, nme_eq x.s q, ← HD.out, if_neg (by rw [← hb2]; simp)]
        subst hn
        obtain ⟨tx, htx⟩ : ∃ tx, tx = x.s.extract p.toNat q.toNat := ⟨_, rfl⟩
        have ks := fun W => slice_str x.s p q (by omega) (by omega) hr2 W
        rw [← htx] at ks
        have HTX := Aside0.mk htx
        clear hb2 hbb htx
        go_wp2_with fail
        go_region_with (go_at_call 53; refine (add_any base g x 15 q tx _ ?_ ?_ hl).mono ?_; exact HW9.out.drewN 1; exact Nat.le_trans hbase HB9.out.size; rintro e0 w3 ⟨rfl, hX3, hB3⟩; have HX4 := Aside0.mk hX3; have HB4 := Aside0.mk ((pw_below_drewN HB9.out 1).trans hB3); clear hX3 hB3)
        all_goals
          (try go_wp2_with fail)
          first | go_end0 | ((try simp only [Exit.inBlock, Exit.then]); refine bodyPost_ret (results_none rfl _ _ _) rfl ?_)
          rw [HF.out, ← HR.out, ← HTX.out]
          exact ⟨rfl, HX4.out, HB4.out⟩
  | false =>
  have hs1 := HS.out
  rw [if_neg (by simp [hbg])] at hs1
  clear HS
  have HS := Aside0.mk hs1
  clear hs1
  go_upto_region 18 with fail
  go_cut [128] (fun vb wc => vb = .bool (c == 45 || isDg c) ∧ Drawn0 w5 wc)
  case first =>
    by_cases e4 : c = 45
    · have n8 : (c == 45) = true := by simp [e4]
      clear e4
      go_wp2_with fail
      go_meet
      case rel => exact ⟨by rw [n8]; rfl, Drawn0.refl _⟩
    · have n8 : (c == 45) = false := by simp [e4]
      clear e4
      go_wp2_with fail
      refine (PFnTokens.spec_isDigit.calls c _ _ (isDg_tells c)).mono ?_
      rintro e0 w6 ⟨rfl, hdw⟩
      have HDW := Aside0.mk hdw
      clear hdw
      go_wp2_with fail
      go_meet
      case rel => exact ⟨by rw [n8]; rfl, HDW.out⟩
  case rest =>
  obtain ⟨rfl, hdw⟩ := hcut
  obtain ⟨w6, rfl⟩ : ∃ w9, w9 = wc := ⟨_, rfl⟩
  have HW6 : Aside0 (Lx w6 base g x) := by obtain ⟨m9, rfl⟩ := hdw; exact ⟨HW5.out.drewN m9⟩
  have HB6 : Aside0 (Below base w w6) := by obtain ⟨m9, rfl⟩ := hdw; exact ⟨pw_below_drewN HB5.out m9⟩
  clear hdw c0 c1 c2 c3 c4 fz v
  obtain ⟨v, c0, c1, c2, c3, c4, fz⟩ := HW6.out.cells
  rw [← HP.out] at c1
  cases hnb : (c == 45 || isDg c) with
  | true =>
    have hfin : S = nums x.s p x.unsure := by rw [HS.out, if_pos (by simpa using hnb)]
    have HF := Aside0.mk hfin
    clear hfin
    go_wp2_with fail
    refine (number_any base g x _ HW6.out (Nat.le_trans hbase HB6.out.size) (by rw [← HP.out]; exact hi) (by rw [← HP.out]; omega) hs hl).mono ?_
    rintro e0 w7 ⟨rfl, hX, hB⟩
    have HX4 := Aside0.mk hX
    have HB4 := Aside0.mk (HB6.out.trans hB)
    clear hX hB
    go_wp2_with fail
    first | go_end0 | ((try simp only [Exit.inBlock, Exit.then]); refine bodyPost_ret (results_none rfl _ _ _) rfl ?_)
    rw [HF.out, HP.out]
    exact ⟨rfl, HX4.out, HB4.out⟩
  | false =>
  have hs1 := HS.out
  rw [if_neg (by simpa using hnb)] at hs1
  clear HS
  have HS := Aside0.mk hs1
  clear hs1
  go_upto_region 20 with fail
  go_cut [137] (fun vb wc => vb = .bool b3 ∧ Drawn0 w6 wc)
  case first =>
    go_region_with (go_at_call 58; refine (PFnTokens.spec_starts.calls x.s p _ b3 _ HQ3.out).mono ?_; rintro e0 w7 ⟨rfl, hdw⟩; have HDW := Aside0.mk hdw; clear hdw)
    all_goals
      (try go_wp2_with fail)
      go_meet
      case rel => exact ⟨rfl, by obtain ⟨m9, rfl⟩ := HDW.out; exact ⟨⟨1 + m9, World.drewN_drewN (w := w6) (n := 1) (m := m9)⟩⟩⟩
  case rest =>
  obtain ⟨rfl, hdw⟩ := hcut
  obtain ⟨w7, rfl⟩ : ∃ w9, w9 = wc := ⟨_, rfl⟩
  have HW7 : Aside0 (Lx w7 base g x) := by obtain ⟨m9, rfl⟩ := hdw; exact ⟨HW6.out.drewN m9⟩
  have HB7 : Aside0 (Below base w w7) := by obtain ⟨m9, rfl⟩ := hdw; exact ⟨pw_below_drewN HB6.out m9⟩
  clear hdw c0 c1 c2 c3 c4 fz v
  obtain ⟨v, c0, c1, c2, c3, c4, fz⟩ := HW7.out.cells
  rw [← HP.out] at c1
  cases b3 with
  | true =>
    have hfin : S = ofBlk p (blk x.s (x.s.size + 1) (p + 3) ⟨#[]⟩ x.unsure) := by rw [HS.out, if_pos rfl]
    have HF := Aside0.mk hfin
    clear hfin
    go_wp2_with fail
    refine (block_any base g x _ HW7.out (Nat.le_trans hbase HB7.out.size) (by rw [← HP.out]; exact hi) (by rw [← HP.out]; omega) hs hl HPT.out).mono ?_
    rintro e0 w8 ⟨rfl, hX, hB⟩
    have HX4 := Aside0.mk hX
    have HB4 := Aside0.mk (HB7.out.trans hB)
    clear hX hB
    go_wp2_with fail
    first | go_end0 | ((try simp only [Exit.inBlock, Exit.then]); refine bodyPost_ret (results_none rfl _ _ _) rfl ?_)
    rw [HF.out, HP.out]
    exact ⟨rfl, HX4.out, HB4.out⟩
  | false =>
  have hs1 := HS.out
  rw [if_neg (by simp)] at hs1
  clear HS
  have HS := Aside0.mk hs1
  clear hs1
  by_cases e5 : c = 34
  · have hfin : S = ofTxt p 18 (txt x.s (x.s.size + 1) (p + 1) ⟨#[]⟩ x.unsure) := by rw [HS.out, if_pos e5]
    have HF := Aside0.mk hfin
    have n9 : (c == 34) = true := by simp [e5]
    clear hfin e5
    go_wp2_with fail
    refine (text_any base g x _ HW7.out (Nat.le_trans hbase HB7.out.size) (by rw [← HP.out]; exact hi) (by rw [← HP.out]; omega) hs hl HPT.out).mono ?_
    rintro e0 w8 ⟨rfl, hX, hB⟩
    rw [after_stp] at hX
    have HX4 := Aside0.mk hX
    have HB4 := Aside0.mk (HB7.out.trans hB)
    clear hX hB
    go_wp2_with fail
    first | go_end0 | ((try simp only [Exit.inBlock, Exit.then]); refine bodyPost_ret (results_none rfl _ _ _) rfl ?_)
    rw [HF.out, HP.out]
    exact ⟨rfl, HX4.out, HB4.out⟩
  · have hfin : S = .bad p x.unsure := by rw [HS.out, if_neg e5]
    have HF := Aside0.mk hfin
    have n9 : (c == 34) = false := by simp [e5]
    clear hfin e5
    go_wp2_with fail
    refine (fail_any base g x _ HW7.out).mono ?_
    rintro e0 w8 ⟨rfl, hX, hB⟩
    have HX4 := Aside0.mk hX
    have HB4 := Aside0.mk (HB7.out.trans hB)
    clear hX hB
    go_wp2_with fail
    first | go_end0 | ((try simp only [Exit.inBlock, Exit.then]); refine bodyPost_ret (results_none rfl _ _ _) rfl ?_)
    rw [HF.out, HP.out]
    exact ⟨rfl, HX4.out, HB4.out⟩
end Go.Proofs.YtbobbognjmofdaaGreatDoor.Lex
end
