import Derived.Test.YtbobbognjmofdaaGreatDoorK12
section
/-
  The package's readString, walked: where the reference is sure, it tells the same.
-/
namespace Go.Proofs.YtbobbognjmofdaaGreatDoor.Lex
open Go.RowKit Go.Proofs.YtbobbognjmofdaaGreatDoorW.PrintWords Go.Proofs.YtbobbognjmofdaaGreatDoorW.PrintLast Go.Proofs.YtbobbognjmofdaaGreatDoorW.PrintMore
open Go.Proofs.YtbobbognjmofdaaGreatDoor.Ptext
set_option linter.unusedVariables false
set_option linter.unusedSimpArgs false
set_option maxRecDepth 4000 in
set_option maxHeartbeats 2000000 in
theorem readString_any (s : ByteArray) (g b c : Nat) (start : Int) (R : Option (Int × ByteArray)) (w : World) (h : Src w b c s) (hg : w.cell? ⟨g, 0, none⟩ = some (.slice (some ⟨b, 0, none⟩) s.size c)) (hs : s.size ≤ 2000) (h0 : 0 ≤ start) (hst : start < s.size)
    (hR : txt s (s.size + 1) (start + 1) ⟨#[]⟩ false = (R, false)) :
    Calls Tryz.prog 57 #[.pointer (some ⟨g, 0, none⟩), .int .i64 start] w fun e w' => Told e (strTok start R) ∧ Below w.heap.size w w' := by
  have HS := Aside0.mk h
  have HG := Aside0.mk hg
  have HR := Aside0.mk hR
  have HT := Aside0.mk hR
  have hg1 : ∀ o, (w.alloc o).cell? ⟨g, 0, none⟩ = some (.slice (some ⟨b, 0, none⟩) s.size c) := fun o => PFnReadString.old_cell (below_alloc (Below.refl _ _) o) hg
  clear h hR hg
  obtain ⟨T, hT⟩ : ∃ T, T = strTok start R := ⟨_, rfl⟩
  rw [← hT]
  have HTT := Aside0.mk hT
  clear hT
  go_enter Tryz.func57, Tryz.ntmps57
  go_wp2_with fail
  obtain ⟨W1, hW1⟩ : ∃ W1, W1 = (w.alloc (.cells #[.int .i64 0, .int .i64 0, .int .i64 0, .string ⟨#[]⟩] 58)).alloc (.cells #[.slice none 0 0, .int .i64 0, .int .i8 0] 179) := ⟨_, rfl⟩
  have hB1 : Below w.heap.size w W1 := by rw [hW1]; exact below_alloc (below_alloc (Below.refl _ _) _) _
  have hE1 : W1.heap[w.heap.size]? = some (.cells #[.int .i64 0, .int .i64 0, .int .i64 0, .string ⟨#[]⟩] 58 (0, 0)) := by
    rw [hW1, heap_alloc_old _ _ (by simp)]
    exact heap_alloc_new _ _
  have hI1 : Lib.IsBuffer 179 5 (w.heap.size + 1) (w.heap.size + 1) (Lib.byteCells []) W1 := by
    have := Lib.fresh_isBuffer 179 5 (w.alloc (.cells #[.int .i64 0, .int .i64 0, .int .i64 0, .string ⟨#[]⟩] 58))
    rw [hW1]
    simpa [Lib.byteCells] using this
  have hz1 : W1.heap.size = w.heap.size + 2 := by rw [hW1]; simp
  rw [← hW1]
  have HB1 := Aside0.mk hB1
  have HE1 := Aside0.mk hE1
  have HI1 := Aside0.mk hI1
  have HZ1 := Aside0.mk hz1
  clear hW1 hB1 hE1 hI1 hz1 hg1
  go_loopg [7, 8, 9] (s.size + 1) (fun kq v7 v8 v9 wr => ∃ (p r ch : Int) (bs : List UInt8), v7 = .int .i64 p ∧ v8 = .int .i64 r ∧ v9 = .int .i64 ch ∧ Aside0 (1 ≤ ch ∧ ch ≤ p ∧ p ≤ s.size ∧ 0 ≤ r ∧ r ≤ p ∧ (s.size : Int) < p + kq ∧ (bs.length : Int) ≤ 4 * ch ∧ txt s kq p ⟨(bs ++ (s.extract ch.toNat p.toNat).data.toList).toArray⟩ false = (R, false) ∧ Lib.IsBuffer 179 5 (w.heap.size + 1) (w.heap.size + 1) (Lib.byteCells bs) wr ∧ Below (w.heap.size + 1) W1 wr))
  case atStart =>
    refine ⟨start + 1, start + 1, start + 1, [], rfl, rfl, rfl, ⟨by omega, by omega, by omega, by omega, by omega, by omega, by show ((0 : Nat) : Int) ≤ _; omega, ?_, HI1.out, Below.refl _ _⟩⟩
    have : s.extract (start + 1).toNat (start + 1).toNat = ⟨#[]⟩ := by
      apply ByteArray.ext; simp
    rw [this]
    exact HR.out
  case round =>
    obtain ⟨p, r, ch, bs, rfl, rfl, rfl, HA⟩ := hrel
    have hch1 := HA.out.1
    have hchp := HA.out.2.1
    have hps := HA.out.2.2.1
    have hr0 := HA.out.2.2.2.1
    have hrp := HA.out.2.2.2.2.1
    have hBw : Below w.heap.size w wr := HB1.out.trans (HA.out.2.2.2.2.2.2.2.2.2.mono (by omega))
    have HSr := Aside0.mk (HS.out.below hBw)
    have HBw := Aside0.mk hBw
    clear hBw
    go_wp2_with fail
    have hX : Below (w.heap.size + 1) W1 wr := HA.out.2.2.2.2.2.2.2.2.2
    have hIr := HA.out.2.2.2.2.2.2.2.2.1
    refine (runeAt_any s b c p wr HSr.out hs (by omega) (by omega)).mono ?_
    rintro e w2 ⟨rfl, hb2⟩
    have HX2 := Aside0.mk (hX.trans (hb2.mono (by have := hX.size; have := HZ1.out; omega)))
    have HI2 := Aside0.mk (Lib.IsBuffer.old hIr hb2)
    have HS2 := Aside0.mk (HSr.out.below hb2)
    clear hX hIr hb2
    obtain ⟨⟨cd, n⟩, hrn⟩ : ∃ r, r = rn s p := ⟨_, rfl⟩
    rw [← hrn]
    have HRN := Aside0.mk hrn
    clear hrn
    by_cases hlt : p < (s.size : Int)
    · have hltb : decide (p < (s.size : Int)) = true := decide_eq_true hlt
      have hcap : (s.size : Int) ≤ (c : Int) := by have := HS.out.le; omega
      have hne : ¬ (c = ch.toNat) := by omega
      obtain ⟨k, rfl⟩ : ∃ k, gk = k + 1 := ⟨gk - 1, by have := HA.out.2.2.2.2.2.1; omega⟩
      obtain ⟨o, ho⟩ : ∃ o : ByteArray, o = ⟨(bs ++ (s.extract ch.toNat p.toNat).data.toList).toArray⟩ := ⟨_, rfl⟩
      have hrun := HA.out.2.2.2.2.2.2.2.1
      rw [← ho] at hrun
      have HO := Aside0.mk ho
      clear ho
      obtain ⟨c0, hc0⟩ : ∃ c0, c0 = bt s p := ⟨_, rfl⟩
      have hcr := bt_range s p
      rw [txt, if_neg (by omega), ← hc0] at hrun
      rw [← hc0] at hcr
      have HC0 := Aside0.mk hc0
      clear hc0
      have hrb := rn_bounds s p (by omega) hlt
      rw [← HRN.out, ← HC0.out] at hrb
      have hcd : c0 < 128 → (cd, n) = (c0, 1) := fun h => by rw [HRN.out, HC0.out]; exact rn_small s p (by omega) hlt (by rw [← HC0.out]; exact h)
      by_cases e1 : c0 = 34
      · rw [if_pos e1] at hrun
        have hfin : R = some (p + 1, o) := by injection hrun with h; exact h.symm
        have HF := Aside0.mk hfin
        obtain ⟨rfl, rfl⟩ := Prod.mk.inj (hcd (by omega))
        subst e1
        clear hfin hrun hcd hrb hcr
        go_wp2_with fail
        have hlb : (bs.length : Int) ≤ 4 * ch := HA.out.2.2.2.2.2.2.1
        refine (write_seg s b c (w.heap.size + 1) (w.heap.size + 1) _ ch p bs _ HS2.out HI2.out (by have := HX2.out.size; have := HZ1.out; omega) (by have := HS.out.lt; omega) (by omega) hchp (by omega) hs (by omega)).mono ?_
        rintro e w3 ⟨⟨v3, rfl⟩, hI3, hb3⟩
        have HX3 := Aside0.mk (HX2.out.trans hb3)
        rw [show (bs ++ (s.extract ch.toNat p.toNat).data.toList) = o.data.toList by rw [HO.out]] at hI3
        have HI3 := Aside0.mk hI3
        clear hI3 hb3
        go_wp2_with fail
        refine (Tryz.Buffer_String (w.heap.size + 1) (w.heap.size + 1) o.data.toList _ HI3.out).mono ?_
        rintro e w4 ⟨rfl, ⟨m4, rfl⟩⟩
        have ho4 : (⟨o.data.toList.toArray⟩ : ByteArray) = o := by simp
        rw [ho4]
        clear ho4
        have HX4 := Aside0.mk (pw_below_drewN HX3.out m4)
        go_wp2_with fail
        refine (PFnReadString.lexer_makeToken.calls 18 start (p + 1) o 18 start (p + 1) o _ rfl).mono ?_
        rintro e w9 ⟨rfl, hb9⟩
        have hX9 : Below (w.heap.size + 1) W1 w9 := HX4.out.trans (hb9.mono (by have := HX4.out.size; have := HZ1.out; omega))
        have e0 : w9.heap[w.heap.size]? = some (.cells #[.int .i64 0, .int .i64 0, .int .i64 0, .string ⟨#[]⟩] 58 (0, 0)) := (hX9.block _ (by omega)).trans HE1.out
        have HX9 := Aside0.mk hX9
        clear hX9 hb9
        have d0 := (blk_cell e0 0).trans rfl
        have d1 := (blk_cell e0 1).trans rfl
        have d2 := (blk_cell e0 2).trans rfl
        have d3 := (blk_cell e0 3).trans rfl
        have f0 := fun j => blk_frozen e0 j
        have E0 := Aside0.mk e0
        clear e0
        go_wp2_with fail
        obtain ⟨q0, q1, q2, q3⟩ := res4 E0.out (.int .i64 18) (.int .i64 start) (.int .i64 (p + 1)) (.string o)
        refine bodyPost_ret (v := .tuple #[tk 18 start (p + 1) o, .nilIface]) (by simp [results, Tryz.results57, go_sem, q0, q1, q2, q3]) rfl ⟨?_, ?_⟩
        · rw [HTT.out, HF.out]
          exact rfl
        · exact set4_below (HB1.out.trans (HX9.out.mono (by omega))) (Nat.le_refl _) _ _ _ _
      rw [if_neg e1] at hrun
      by_cases e2 : c0 = 10 ∨ c0 = 13
      · rw [if_pos e2] at hrun
        have hfin : R = none := by injection hrun with h; exact h.symm
        have HF : Aside0 (R = none) := ⟨hfin⟩
        clear hfin
        obtain ⟨rfl, rfl⟩ := Prod.mk.inj (hcd (by omega))
        have e3 : (cd != 34) = true := by simp; omega
        clear hrun hcd hrb hcr e1
        rcases e2 with rfl | rfl
        all_goals
          go_wp2_with fail
          refine (PFnReadString.synErr_any s g (some ⟨b, 0, none⟩) c r _ _ (PFnReadString.old_cell (HB1.out.trans (HX2.out.mono (by omega))) HG.out) HS2.out.cells HS2.out.le hs (by omega) (by omega)).mono ?_
          rintro e w9 ⟨⟨q, rfl⟩, hb9⟩
          have hX9 : Below (w.heap.size + 1) W1 w9 := HX2.out.trans (hb9.mono (by have := HX2.out.size; have := HZ1.out; omega))
          have e0 : w9.heap[w.heap.size]? = some (.cells #[.int .i64 0, .int .i64 0, .int .i64 0, .string ⟨#[]⟩] 58 (0, 0)) := (hX9.block _ (by omega)).trans HE1.out
          have HX9 := Aside0.mk hX9
          clear hX9 hb9
          have d0 := (blk_cell e0 0).trans rfl
          have d1 := (blk_cell e0 1).trans rfl
          have d2 := (blk_cell e0 2).trans rfl
          have d3 := (blk_cell e0 3).trans rfl
          have f0 := fun j => blk_frozen e0 j
          have E0 := Aside0.mk e0
          clear e0
          go_wp2_with fail
          obtain ⟨q0, q1, q2, q3⟩ := res4 E0.out (.int .i64 0) (.int .i64 0) (.int .i64 0) (.string ⟨#[]⟩)
          refine bodyPost_ret (v := .tuple #[tk 0 0 0 ⟨#[]⟩, .iface 182 (.pointer (some ⟨q, 0, none⟩))]) (by simp [results, Tryz.results57, go_sem, q0, q1, q2, q3]) rfl ⟨?_, ?_⟩
          · rw [HTT.out, HF.out]
            exact ⟨q, rfl⟩
          · exact set4_below (HB1.out.trans (HX9.out.mono (by omega))) (Nat.le_refl _) _ _ _ _
      rw [if_neg e2] at hrun
      by_cases e4 : c0 = 92
      · rw [if_pos e4] at hrun
        obtain ⟨rfl, rfl⟩ := Prod.mk.inj (hcd (by omega))
        subst e4
        have hlb : (bs.length : Int) ≤ 4 * ch := HA.out.2.2.2.2.2.2.1
        clear hcd hrb hcr e1 e2
        have HRUN := Aside0.mk hrun
        clear hrun
        go_wp2_with fail
        refine (write_seg s b c (w.heap.size + 1) (w.heap.size + 1) _ ch p bs _ HS2.out HI2.out (by have := HX2.out.size; have := HZ1.out; omega) (by have := HS.out.lt; omega) (by omega) hchp (by omega) hs (by omega)).mono ?_
        rintro e w3 ⟨⟨v3, rfl⟩, hI3, hb3⟩
        have HX3 := Aside0.mk (HX2.out.trans hb3)
        have HI3 := Aside0.mk hI3
        have HS3 := Aside0.mk (HS.out.below (HB1.out.trans (HX3.out.mono (by omega))))
        clear hI3 hb3
        go_wp2_with fail
        refine (runeAt_any s b c (p + 1) w3 HS3.out hs (by omega) (by omega)).mono ?_
        rintro e w4 ⟨rfl, hb4⟩
        have HX4 := Aside0.mk (HX3.out.trans (hb4.mono (by have := HX3.out.size; have := HZ1.out; omega)))
        have HI4 := Aside0.mk (Lib.IsBuffer.old HI3.out hb4)
        have HS4 := Aside0.mk (HS3.out.below hb4)
        clear hb4
        have hnx := rn_nx s (p + 1) (by omega)
        obtain ⟨⟨c2, n2⟩, hrn2⟩ : ∃ r, r = rn s (p + 1) := ⟨_, rfl⟩
        rw [← hrn2] at hnx ⊢
        clear hrn2
        have hun : esc s p = match escText (nx s (p + 1)) with
          | some t => (t, 2, false)
          | none => if nx s (p + 1) ≠ 117 then (⟨#[]⟩, 0, false) else
            match hexs s 4 (p + 2) 0 with
            | .error q => (⟨#[]⟩, 0, nx s q == 123)
            | .ok n => if 55296 ≤ n ∧ n < 57344 then (⟨#[]⟩, 0, true) else (Utf8.encode n, 6, n == 0) := rfl
        obtain ⟨x, hx⟩ : ∃ x, x = nx s (p + 1) := ⟨_, rfl⟩
        have hxr := nx_range s (p + 1)
        rw [← hx] at hun hnx hxr
        have HXX := Aside0.mk hx
        clear hx
        have hsl : (s.extract ch.toNat p.toNat).data.toList.length = p.toNat - ch.toNat := by
          rw [Array.length_toList]
          show (s.extract ch.toNat p.toNat).size = _
          rw [ByteArray.size_extract]; omega
        have hbl : ((bs ++ (s.extract ch.toNat p.toNat).data.toList).length : Int) ≤ 4 * p := by
          rw [List.length_append, hsl]; omega
        obtain ⟨bs1, hbs1⟩ : ∃ bs1, bs1 = bs ++ (s.extract ch.toNat p.toNat).data.toList := ⟨_, rfl⟩
        rw [← hbs1] at hbl
        have HI4 : Aside0 (Lib.IsBuffer 179 5 (w.heap.size + 1) (w.heap.size + 1) (Lib.byteCells bs1) w4) := ⟨by rw [hbs1]; exact HI4.out⟩
        have HO1 : Aside0 (o = ⟨bs1.toArray⟩) := ⟨by rw [hbs1]; exact HO.out⟩
        clear hbs1 hsl
        have hfix : ∀ (q : Int) (rr : Int) (bs2 : List UInt8) (w5 : World), q ≤ s.size → 0 ≤ rr → rr ≤ q → p + 1 ≤ q → (bs2.length : Int) ≤ 4 * q → txt s k q ⟨bs2.toArray⟩ false = (R, false) → Lib.IsBuffer 179 5 (w.heap.size + 1) (w.heap.size + 1) (Lib.byteCells bs2) w5 → Below (w.heap.size + 1) W1 w5 → 
            ∃ (p r ch : Int) (bs : List UInt8), Value.int .i64 q = .int .i64 p ∧ Value.int .i64 rr = .int .i64 r ∧ Value.int .i64 q = .int .i64 ch ∧ Aside0 (1 ≤ ch ∧ ch ≤ p ∧ p ≤ s.size ∧ 0 ≤ r ∧ r ≤ p ∧ (s.size : Int) < p + k ∧ (bs.length : Int) ≤ 4 * ch ∧ txt s k p ⟨(bs ++ (s.extract ch.toNat p.toNat).data.toList).toArray⟩ false = (R, false) ∧ Lib.IsBuffer 179 5 (w.heap.size + 1) (w.heap.size + 1) (Lib.byteCells bs) w5 ∧ Below (w.heap.size + 1) W1 w5) := by
          intro q rr bs2 w5 q1 q2 q3 q4 q5 q6 q7 q8
          refine ⟨q, rr, q, bs2, rfl, rfl, rfl, ⟨by omega, by omega, q1, q2, q3, by have := HA.out.2.2.2.2.2.1; omega, q5, ?_, q7, q8⟩⟩
          have he : (s.extract q.toNat q.toNat).data.toList = [] := by
            have : s.extract q.toNat q.toNat = ⟨#[]⟩ := by apply ByteArray.ext; simp
            rw [this]
          rw [he, List.append_nil]
          exact q6
        have HFIX := Aside0.mk hfix
        clear hfix
        cases het : escText x with
        | some t =>
          rw [het] at hun
          have hrun := HRUN.out
          rw [hun] at hrun
          have hrun : txt s k (p + 2) (o ++ t) false = (R, false) := hrun
          obtain ⟨hx0, hx1⟩ := esc_pos x t het
          obtain ⟨hc2, hq⟩ := hnx.2.1 ⟨hx0, hx1⟩
          obtain ⟨rfl, rfl⟩ := Prod.mk.inj hc2
          have HRUN2 := Aside0.mk hrun
          have HT2 := Aside0.mk (esc_enc _ t het)
          have hec := esc_cases _ t het
          clear hrun hun het hnx hc2 hx0 hx1 HXX
          rcases hec with rfl | rfl | rfl | rfl | rfl | rfl | rfl | rfl
          all_goals
            go_wp2_with fail
            refine (write_rune _ _ _ _ _ HI4.out (by have := HX4.out.size; have := HZ1.out; omega) (by omega) (by omega) (by omega)).mono ?_
            rintro e w5 ⟨⟨v5, rfl⟩, hI5, hb5⟩
            have HI5 := Aside0.mk hI5
            have HX5 := Aside0.mk (HX4.out.trans hb5)
            clear hI5 hb5
            go_wp2_with fail
            go_roundg k
            case measure => omega
            case rel =>
              refine HFIX.out (p + 1 + 1) (r + 1 + 1) _ _ (by omega) (by omega) (by omega) (by omega) ?_ ?_ HI5.out HX5.out
              · rw [List.length_append]
                refine Int.le_trans (Int.ofNat_le.2 (Nat.add_le_add_left (encodeRune_len _) _)) ?_
                push_cast
                omega
              · rw [show p + 1 + 1 = p + 2 by omega]
                have hr2 := HRUN2.out
                rw [HO1.out] at hr2
                refine (congrArg (fun z => txt s k (p + 2) z false) ?_).trans hr2
                exact app_text bs1 _ _ HT2.out
        | none =>
          rw [het] at hun
          have hno := esc_none x het
          clear het
          by_cases hu : x = 117
          · subst hu
            obtain ⟨hc2, hq⟩ := hnx.2.1 ⟨by omega, by omega⟩
            obtain ⟨rfl, rfl⟩ := Prod.mk.inj hc2
            have hun : esc s p = match hexs s 4 (p + 2) 0 with
              | .error q => (⟨#[]⟩, 0, nx s q == 123)
              | .ok n => if 55296 ≤ n ∧ n < 57344 then (⟨#[]⟩, 0, true) else (Utf8.encode n, 6, n == 0) := hun
            clear hnx hc2 hno
            by_cases hsz : (s.size : Int) ≤ p + 1 + 4
            · have hszb : decide ((s.size : Int) ≤ p + 1 + 4) = true := decide_eq_true hsz
              have hn0 : nx s (p + 2 + 3) = 0 := by unfold nx; rw [if_neg (by omega)]
              obtain ⟨qe, hqe⟩ := hexs_err s (p + 2) (.inr (.inr (.inr (by rw [hn0]; decide))))
              rw [hqe] at hun
              have hrun := HRUN.out
              rw [hun] at hrun
              have hfin : R = none := by injection hrun with h; exact h.symm
              have HF : Aside0 (R = none) := ⟨hfin⟩
              clear hfin
              clear hun hrun hqe hn0
              go_wp2_with fail
              refine (PFnReadString.synErr_any s g (some ⟨b, 0, none⟩) c (r + 1) _ _ (PFnReadString.old_cell (HB1.out.trans (HX4.out.mono (by omega))) HG.out) HS4.out.cells HS4.out.le hs (by omega) (by omega)).mono ?_
              rintro e w9 ⟨⟨q, rfl⟩, hb9⟩
              have hX9 : Below (w.heap.size + 1) W1 w9 := HX4.out.trans (hb9.mono (by have := HX4.out.size; have := HZ1.out; omega))
              have e0 : w9.heap[w.heap.size]? = some (.cells #[.int .i64 0, .int .i64 0, .int .i64 0, .string ⟨#[]⟩] 58 (0, 0)) := (hX9.block _ (by omega)).trans HE1.out
              have HX9 := Aside0.mk hX9
              clear hX9 hb9
              have d0 := (blk_cell e0 0).trans rfl
              have d1 := (blk_cell e0 1).trans rfl
              have d2 := (blk_cell e0 2).trans rfl
              have d3 := (blk_cell e0 3).trans rfl
              have f0 := fun j => blk_frozen e0 j
              have E0 := Aside0.mk e0
              clear e0
              go_wp2_with fail
              obtain ⟨q0, q1, q2, q3⟩ := res4 E0.out (.int .i64 0) (.int .i64 0) (.int .i64 0) (.string ⟨#[]⟩)
              refine bodyPost_ret (v := .tuple #[tk 0 0 0 ⟨#[]⟩, .iface 182 (.pointer (some ⟨q, 0, none⟩))]) (by simp [results, Tryz.results57, go_sem, q0, q1, q2, q3]) rfl ⟨?_, ?_⟩
              · rw [HTT.out, HF.out]
                exact ⟨q, rfl⟩
              · exact set4_below (HB1.out.trans (HX9.out.mono (by omega))) (Nat.le_refl _) _ _ _ _
            · have hszb : decide ((s.size : Int) ≤ p + 1 + 4) = false := decide_eq_false hsz
              have g1 := HS4.out.cell (p + 1 + 1) (by omega) (by omega)
              have g2 := HS4.out.cell (p + 1 + 2) (by omega) (by omega)
              have g3 := HS4.out.cell (p + 1 + 3) (by omega) (by omega)
              have g4 := HS4.out.cell (p + 1 + 4) (by omega) (by omega)
              have r1 := bt_range s (p + 1 + 1)
              have r2 := bt_range s (p + 1 + 2)
              have r3 := bt_range s (p + 1 + 3)
              have r4 := bt_range s (p + 1 + 4)
              have n1 : nx s (p + 2) = bt s (p + 1 + 1) := by unfold nx; rw [if_pos (by omega), show p + 1 + 1 = p + 2 by omega]
              have n2 : nx s (p + 2 + 1) = bt s (p + 1 + 2) := by unfold nx; rw [if_pos (by omega), show p + 1 + 2 = p + 2 + 1 by omega]
              have n3 : nx s (p + 2 + 2) = bt s (p + 1 + 3) := by unfold nx; rw [if_pos (by omega), show p + 1 + 3 = p + 2 + 2 by omega]
              have n4 : nx s (p + 2 + 3) = bt s (p + 1 + 4) := by unfold nx; rw [if_pos (by omega), show p + 1 + 4 = p + 2 + 3 by omega]
              obtain ⟨y1, hy1⟩ : ∃ y, y = bt s (p + 1 + 1) := ⟨_, rfl⟩
              obtain ⟨y2, hy2⟩ : ∃ y, y = bt s (p + 1 + 2) := ⟨_, rfl⟩
              obtain ⟨y3, hy3⟩ : ∃ y, y = bt s (p + 1 + 3) := ⟨_, rfl⟩
              obtain ⟨y4, hy4⟩ : ∃ y, y = bt s (p + 1 + 4) := ⟨_, rfl⟩
              rw [← hy1] at g1 r1 n1
              rw [← hy2] at g2 r2 n2
              rw [← hy3] at g3 r3 n3
              rw [← hy4] at g4 r4 n4
              clear hy1 hy2 hy3 hy4
              obtain ⟨rr, hU, ub1, ub2, hpos, hneg⟩ := uni_tells y1 y2 y3 y4 r1 r2 r3 r4
              have HU := Aside0.mk hU
              have h4 := hexs4 s (p + 2)
              rw [n1, n2, n3, n4] at h4
              have HPOS := Aside0.mk hpos
              have HNEG := Aside0.mk hneg
              have H4 := Aside0.mk h4
              have HUN := Aside0.mk hun
              have hcap1 : p + 1 + 1 < (s.size : Int) := by omega
              have hcap2 : p + 1 + 2 < (s.size : Int) := by omega
              have hcap3 : p + 1 + 3 < (s.size : Int) := by omega
              have hcap4 : p + 1 + 4 < (s.size : Int) := by omega
              clear hU hpos hneg h4 hun n1 n2 n3 n4
              by_cases hrr : rr < 0
              · have hrrb : decide (rr < 0) = true := decide_eq_true hrr
                have hfin : R = none := by
                  obtain ⟨qe, hqe⟩ : ∃ qe, hexs s 4 (p + 2) 0 = .error qe := by
                    rw [H4.out]
                    have hp1 := hexv_range y1
                    by_cases k1 : hexv y1 < 0
                    · exact ⟨_, if_pos k1⟩
                    rw [if_neg k1]
                    by_cases k2 : hexv y2 < 0
                    · exact ⟨_, if_pos k2⟩
                    rw [if_neg k2]
                    by_cases k3 : hexv y3 < 0
                    · exact ⟨_, if_pos k3⟩
                    rw [if_neg k3]
                    by_cases k4 : hexv y4 < 0
                    · exact ⟨_, if_pos k4⟩
                    have := HPOS.out ⟨by omega, by omega, by omega, by omega⟩
                    omega
                  have hun := HUN.out
                  rw [hqe] at hun
                  have hrun := HRUN.out
                  rw [hun] at hrun
                  injection hrun with h; exact h.symm
                have HF : Aside0 (R = none) := ⟨hfin⟩
                clear hfin
                clear hrr
                go_wp2_with fail
                go_quiet (first | (go_at_call 99; exact quiet_uni _ _ _ _ _ _ _ HU.out) | fail)
                have HX4q := Aside0.mk (pw_below_drewN HX4.out nq)
                have HS4q := Aside0.mk (HS4.out.below (pw_below_drewN (Below.refl _ _) nq))
                go_wp2_with fail
                refine (PFnReadString.synErr_any s g (some ⟨b, 0, none⟩) c (r + 1) _ _ (PFnReadString.old_cell (HB1.out.trans (HX4q.out.mono (by omega))) HG.out) HS4q.out.cells HS4q.out.le hs (by omega) (by omega)).mono ?_
                rintro e w9 ⟨⟨q, rfl⟩, hb9⟩
                have hX9 : Below (w.heap.size + 1) W1 w9 := HX4q.out.trans (hb9.mono (by have := HX4q.out.size; have := HZ1.out; omega))
                have e0 : w9.heap[w.heap.size]? = some (.cells #[.int .i64 0, .int .i64 0, .int .i64 0, .string ⟨#[]⟩] 58 (0, 0)) := (hX9.block _ (by omega)).trans HE1.out
                have HX9 := Aside0.mk hX9
                clear hX9 hb9
                have d0 := (blk_cell e0 0).trans rfl
                have d1 := (blk_cell e0 1).trans rfl
                have d2 := (blk_cell e0 2).trans rfl
                have d3 := (blk_cell e0 3).trans rfl
                have f0 := fun j => blk_frozen e0 j
                have E0 := Aside0.mk e0
                clear e0
                go_wp2_with fail
                obtain ⟨q0, q1, q2, q3⟩ := res4 E0.out (.int .i64 0) (.int .i64 0) (.int .i64 0) (.string ⟨#[]⟩)
                refine bodyPost_ret (v := .tuple #[tk 0 0 0 ⟨#[]⟩, .iface 182 (.pointer (some ⟨q, 0, none⟩))]) (by simp [results, Tryz.results57, go_sem, q0, q1, q2, q3]) rfl ⟨?_, ?_⟩
                · rw [HTT.out, HF.out]
                  exact ⟨q, rfl⟩
                · exact set4_below (HB1.out.trans (HX9.out.mono (by omega))) (Nat.le_refl _) _ _ _ _
              · have hrrb : decide (rr < 0) = false := decide_eq_false hrr
                have hok : hexs s 4 (p + 2) 0 = .ok rr := by
                  have k : ¬ (hexv y1 < 0 ∨ hexv y2 < 0 ∨ hexv y3 < 0 ∨ hexv y4 < 0) := fun h => by
                    have := HNEG.out h; omega
                  rw [H4.out, if_neg (by omega), if_neg (by omega), if_neg (by omega), if_neg (by omega), HPOS.out ⟨by omega, by omega, by omega, by omega⟩]
                have hun := HUN.out
                rw [hok] at hun
                have hun : esc s p = if 55296 ≤ rr ∧ rr < 57344 then (⟨#[]⟩, 0, true) else (Utf8.encode rr, 6, rr == 0) := hun
                have hrun := HRUN.out
                by_cases hsur : 55296 ≤ rr ∧ rr < 57344
                · rw [hun, if_pos hsur] at hrun
                  exact absurd (congrArg Prod.snd hrun) (by simp)
                rw [hun, if_neg hsur] at hrun
                have hrun : txt s k (p + 6) (o ++ Utf8.encode rr) (false || (rr == 0)) = (R, false) := hrun
                cases hz0 : (rr == 0) with
                | true =>
                  rw [hz0] at hrun
                  have := txt_mono s k (p + 6) (o ++ Utf8.encode rr)
                  rw [show (false || true) = true from rfl] at hrun
                  rw [hrun] at this
                  cases this
                | false =>
                  rw [hz0] at hrun
                  have HRUN2 := Aside0.mk (show txt s k (p + 6) (o ++ Utf8.encode rr) false = (R, false) from hrun)
                  have HT2 := Aside0.mk (enc_rune rr (by omega) (by omega) hsur)
                  have hrr0 : 0 ≤ rr := by omega
                  clear hrun hun hok hsur hrr hz0
                  go_wp2_with fail
                  go_quiet (first | (go_at_call 99; exact quiet_uni _ _ _ _ _ _ _ HU.out) | fail)
                  go_wp2_with fail
                  have HX4q := Aside0.mk (pw_below_drewN HX4.out nq)
                  refine (write_rune _ _ _ _ _ (Lib.IsBuffer.drewN HI4.out nq) (by have := HX4q.out.size; have := HZ1.out; omega) (by omega) (by omega) (by omega)).mono ?_
                  rintro e w5 ⟨⟨v5, rfl⟩, hI5, hb5⟩
                  have HI5 := Aside0.mk hI5
                  have HX5 := Aside0.mk (HX4q.out.trans hb5)
                  clear hI5 hb5
                  go_wp2_with fail
                  go_roundg k
                  case measure => omega
                  case rel =>
                    refine HFIX.out (p + 1 + 4 + 1) (r + 1 + 4 + 1) _ _ (by omega) (by omega) (by omega) (by omega) ?_ ?_ HI5.out HX5.out
                    · rw [List.length_append]
                      refine Int.le_trans (Int.ofNat_le.2 (Nat.add_le_add_left (encodeRune_len _) _)) ?_
                      push_cast
                      omega
                    · rw [show p + 1 + 4 + 1 = p + 6 by omega]
                      have hr2 := HRUN2.out
                      rw [HO1.out] at hr2
                      refine (congrArg (fun z => txt s k (p + 6) z false) ?_).trans hr2
                      exact app_text bs1 _ _ HT2.out
          · have hun : esc s p = (⟨#[]⟩, 0, false) := by rw [hun]; exact if_pos hu
            have hrun := HRUN.out
            rw [hun] at hrun
            have hfin : R = none := by injection hrun with h; exact h.symm
            have HF : Aside0 (R = none) := ⟨hfin⟩
            clear hfin
            have hc9 : c2 ≠ 34 ∧ c2 ≠ 92 ∧ c2 ≠ 47 ∧ c2 ≠ 98 ∧ c2 ≠ 102 ∧ c2 ≠ 110 ∧ c2 ≠ 114 ∧ c2 ≠ 116 ∧ c2 ≠ 117 := by
              by_cases h0 : x = 0
              · have : c2 ≤ 0 := hnx.1 h0
                omega
              · by_cases h1 : x < 128
                · have := (Prod.mk.inj (hnx.2.1 ⟨by omega, h1⟩).1).1
                  omega
                · have : 128 ≤ c2 := hnx.2.2 (by omega)
                  omega
            have b1 : (c2 == 34) = false := by simp; omega
            have b2 : (c2 == 92) = false := by simp; omega
            have b3 : (c2 == 47) = false := by simp; omega
            have b4 : (c2 == 98) = false := by simp; omega
            have b5 : (c2 == 102) = false := by simp; omega
            have b6 : (c2 == 110) = false := by simp; omega
            have b7 : (c2 == 114) = false := by simp; omega
            have b8 : (c2 == 116) = false := by simp; omega
            have b9 : (c2 == 117) = false := by simp; omega
            clear hun hrun hnx hno hu hc9
            go_wp2_with fail
            refine (PFnReadString.synErr_any s g (some ⟨b, 0, none⟩) c (r + 1) _ _ (PFnReadString.old_cell (HB1.out.trans (HX4.out.mono (by omega))) HG.out) HS4.out.cells HS4.out.le hs (by omega) (by omega)).mono ?_
            rintro e w9 ⟨⟨q, rfl⟩, hb9⟩
            have hX9 : Below (w.heap.size + 1) W1 w9 := HX4.out.trans (hb9.mono (by have := HX4.out.size; have := HZ1.out; omega))
            have e0 : w9.heap[w.heap.size]? = some (.cells #[.int .i64 0, .int .i64 0, .int .i64 0, .string ⟨#[]⟩] 58 (0, 0)) := (hX9.block _ (by omega)).trans HE1.out
            have HX9 := Aside0.mk hX9
            clear hX9 hb9
            have d0 := (blk_cell e0 0).trans rfl
            have d1 := (blk_cell e0 1).trans rfl
            have d2 := (blk_cell e0 2).trans rfl
            have d3 := (blk_cell e0 3).trans rfl
            have f0 := fun j => blk_frozen e0 j
            have E0 := Aside0.mk e0
            clear e0
            go_wp2_with fail
            obtain ⟨q0, q1, q2, q3⟩ := res4 E0.out (.int .i64 0) (.int .i64 0) (.int .i64 0) (.string ⟨#[]⟩)
            refine bodyPost_ret (v := .tuple #[tk 0 0 0 ⟨#[]⟩, .iface 182 (.pointer (some ⟨q, 0, none⟩))]) (by simp [results, Tryz.results57, go_sem, q0, q1, q2, q3]) rfl ⟨?_, ?_⟩
            · rw [HTT.out, HF.out]
              exact ⟨q, rfl⟩
            · exact set4_below (HB1.out.trans (HX9.out.mono (by omega))) (Nat.le_refl _) _ _ _ _
      rw [if_neg e4] at hrun
      have hptt := (pt_tells s (by omega) p (by omega) hlt).2
      have hrp := rn_pt s (by omega) p (by omega) hlt
      rw [← HRN.out] at hrp
      obtain ⟨⟨pc, pn⟩, hP⟩ : ∃ P, P = ptS s p := ⟨_, rfl⟩
      rw [← hP] at hrun hptt hrp
      have hptt : pn = 0 ∨ 1 ≤ pn ∧ pn ≤ 4 ∧ p + pn ≤ (s.size : Int) := hptt
      clear hP
      by_cases hz : pn = 0
      · rw [if_pos (show (pc, pn).2 = 0 from hz)] at hrun
        exact absurd (congrArg Prod.snd hrun) (by simp)
      rw [if_neg (show ¬ (pc, pn).2 = 0 from hz)] at hrun
      obtain ⟨rfl, rfl⟩ := Prod.mk.inj (hrp hz)
      have hne4 : cd ≠ 10 ∧ cd ≠ 13 ∧ cd ≠ 34 ∧ cd ≠ 92 := by
        by_cases hb : c0 < 128
        · have := (Prod.mk.inj (hcd hb)).1; omega
        · have : 128 ≤ cd := hrb.2.2.2.2.2 (by omega)
          omega
      have hcd0 : 0 ≤ cd := hrb.1
      clear hcd hrb hrp hcr e1 e2 e4
      have b1 : (cd != 10) = true := by simp; omega
      have b2 : (cd != 13) = true := by simp; omega
      have b3 : (cd != 34) = true := by simp; omega
      have b4 : (cd == 92) = false := by simp; omega
      cases hsr : isSrc cd with
      | false =>
        rw [if_pos (show isSrc (cd, n).1 = false from hsr)] at hrun
        have hfin : R = none := by injection hrun with h; exact h.symm
        have HF : Aside0 (R = none) := ⟨hfin⟩
        clear hfin
        have hs4 : cd ≠ 9 ∧ cd < 32 := by
          unfold isSrc at hsr
          simp at hsr
          omega
        have b5 : decide (cd < 32) = true := decide_eq_true hs4.2
        have b6 : (cd != 9) = true := by simp; omega
        clear hrun hsr hs4 hne4 hptt hz
        go_wp2_with fail
        refine (PFnReadString.synErr_any s g (some ⟨b, 0, none⟩) c r _ _ (PFnReadString.old_cell (HB1.out.trans (HX2.out.mono (by omega))) HG.out) HS2.out.cells HS2.out.le hs (by omega) (by omega)).mono ?_
        rintro e w9 ⟨⟨q, rfl⟩, hb9⟩
        have hX9 : Below (w.heap.size + 1) W1 w9 := HX2.out.trans (hb9.mono (by have := HX2.out.size; have := HZ1.out; omega))
        have e0 : w9.heap[w.heap.size]? = some (.cells #[.int .i64 0, .int .i64 0, .int .i64 0, .string ⟨#[]⟩] 58 (0, 0)) := (hX9.block _ (by omega)).trans HE1.out
        have HX9 := Aside0.mk hX9
        clear hX9 hb9
        have d0 := (blk_cell e0 0).trans rfl
        have d1 := (blk_cell e0 1).trans rfl
        have d2 := (blk_cell e0 2).trans rfl
        have d3 := (blk_cell e0 3).trans rfl
        have f0 := fun j => blk_frozen e0 j
        have E0 := Aside0.mk e0
        clear e0
        go_wp2_with fail
        obtain ⟨q0, q1, q2, q3⟩ := res4 E0.out (.int .i64 0) (.int .i64 0) (.int .i64 0) (.string ⟨#[]⟩)
        refine bodyPost_ret (v := .tuple #[tk 0 0 0 ⟨#[]⟩, .iface 182 (.pointer (some ⟨q, 0, none⟩))]) (by simp [results, Tryz.results57, go_sem, q0, q1, q2, q3]) rfl ⟨?_, ?_⟩
        · rw [HTT.out, HF.out]
          exact ⟨q, rfl⟩
        · exact set4_below (HB1.out.trans (HX9.out.mono (by omega))) (Nat.le_refl _) _ _ _ _
      | true =>
        rw [if_neg (show ¬ isSrc (cd, n).1 = false by rw [show isSrc (cd, n).1 = true from hsr]; simp)] at hrun
        have hbig : decide (65535 < cd) = false := by
          cases hd : decide (65535 < cd) with
          | false => rfl
          | true =>
            have hd' : (false || decide (65535 < (cd, n).1)) = true := hd
            rw [hd'] at hrun
            have := txt_mono s k (p + (cd, n).2) (o ++ s.extract p.toNat (p + (cd, n).2).toNat)
            rw [hrun] at this
            cases this
        rw [show (false || decide (65535 < (cd, n).1)) = false from hbig] at hrun
        have hrun : txt s k (p + n) (o ++ s.extract p.toNat (p + n).toNat) false = (R, false) := hrun
        have hs5 : cd = 9 ∨ 32 ≤ cd := by
          unfold isSrc at hsr
          simp at hsr
          omega
        have hn4 : 1 ≤ n ∧ n ≤ 4 ∧ p + n ≤ (s.size : Int) := by omega
        obtain ⟨hn1, hn2, hn3⟩ := hn4
        have HRUN := Aside0.mk hrun
        have HNE := Aside0.mk hne4
        clear hrun hsr hbig hne4 hptt hz
        rcases hs5 with rfl | hs5
        · go_wp2_with fail
          go_roundg k
          case measure => omega
          case rel =>
            refine ⟨p + n, r + 1, ch, bs, rfl, rfl, rfl, ⟨by omega, by omega, by omega, by omega, by omega, by have := HA.out.2.2.2.2.2.1; omega, by have := HA.out.2.2.2.2.2.2.1; omega, ?_, HI2.out, HX2.out⟩⟩
            have := HRUN.out
            rw [HO.out] at this
            rw [← ext_app s ch.toNat p.toNat (p + n).toNat (by omega) (by omega) (by omega), ← List.append_assoc]
            have he : (⟨(bs ++ (s.extract ch.toNat p.toNat).data.toList ++ (s.extract p.toNat (p + n).toNat).data.toList).toArray⟩ : ByteArray) = ⟨(bs ++ (s.extract ch.toNat p.toNat).data.toList).toArray⟩ ++ s.extract p.toNat (p + n).toNat := by
              apply ByteArray.ext; simp
            rw [he]
            exact this
        · have b5 : decide (cd < 32) = false := decide_eq_false (by omega)
          go_wp2_with fail
          go_roundg k
          case measure => omega
          case rel =>
            refine ⟨p + n, r + 1, ch, bs, rfl, rfl, rfl, ⟨by omega, by omega, by omega, by omega, by omega, by have := HA.out.2.2.2.2.2.1; omega, by have := HA.out.2.2.2.2.2.2.1; omega, ?_, HI2.out, HX2.out⟩⟩
            have := HRUN.out
            rw [HO.out] at this
            rw [← ext_app s ch.toNat p.toNat (p + n).toNat (by omega) (by omega) (by omega), ← List.append_assoc]
            have he : (⟨(bs ++ (s.extract ch.toNat p.toNat).data.toList ++ (s.extract p.toNat (p + n).toNat).data.toList).toArray⟩ : ByteArray) = ⟨(bs ++ (s.extract ch.toNat p.toNat).data.toList).toArray⟩ ++ s.extract p.toNat (p + n).toNat := by
              apply ByteArray.ext; simp
            rw [he]
            exact this
    · have hltb : decide (p < (s.size : Int)) = false := decide_eq_false hlt
      have hfin : R = none := by
        have hrun := HA.out.2.2.2.2.2.2.2.1
        cases gk with
        | zero => injection hrun with h; exact h.symm
        | succ k => rw [txt, if_pos (by omega)] at hrun; injection hrun with h; exact h.symm
      have HF : Aside0 (R = none) := ⟨hfin⟩
      clear hfin
      have hcdm := rn_eof s p (by omega)
      rw [← HRN.out] at hcdm
      obtain ⟨rfl, rfl⟩ := Prod.mk.inj hcdm
      clear hcdm
      go_wp2_with fail
      refine (PFnReadString.synErr_any s g (some ⟨b, 0, none⟩) c r _ _ (PFnReadString.old_cell (HB1.out.trans (HX2.out.mono (by omega))) HG.out) HS2.out.cells HS2.out.le hs (by omega) (by omega)).mono ?_
      rintro e w9 ⟨⟨q, rfl⟩, hb9⟩
      have hX9 : Below (w.heap.size + 1) W1 w9 := HX2.out.trans (hb9.mono (by have := HX2.out.size; have := HZ1.out; omega))
      have e0 : w9.heap[w.heap.size]? = some (.cells #[.int .i64 0, .int .i64 0, .int .i64 0, .string ⟨#[]⟩] 58 (0, 0)) := (hX9.block _ (by omega)).trans HE1.out
      have HX9 := Aside0.mk hX9
      clear hX9 hb9
      have d0 := (blk_cell e0 0).trans rfl
      have d1 := (blk_cell e0 1).trans rfl
      have d2 := (blk_cell e0 2).trans rfl
      have d3 := (blk_cell e0 3).trans rfl
      have f0 := fun j => blk_frozen e0 j
      have E0 := Aside0.mk e0
      clear e0
      go_wp2_with fail
      obtain ⟨q0, q1, q2, q3⟩ := res4 E0.out (.int .i64 0) (.int .i64 0) (.int .i64 0) (.string ⟨#[]⟩)
      refine bodyPost_ret (v := .tuple #[tk 0 0 0 ⟨#[]⟩, .iface 182 (.pointer (some ⟨q, 0, none⟩))]) (by simp [results, Tryz.results57, go_sem, q0, q1, q2, q3]) rfl ⟨?_, ?_⟩
      · rw [HTT.out, HF.out]
        exact ⟨q, rfl⟩
      · exact set4_below (HB1.out.trans (HX9.out.mono (by omega))) (Nat.le_refl _) _ _ _ _
end Go.Proofs.YtbobbognjmofdaaGreatDoor.Lex
end
