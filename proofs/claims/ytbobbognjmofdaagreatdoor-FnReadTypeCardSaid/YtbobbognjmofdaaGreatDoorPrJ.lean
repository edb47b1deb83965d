/-
  The package's parser of types, walked.
-/
import Derived.Test.YtbobbognjmofdaaGreatDoorPrI
namespace Go.Proofs.YtbobbognjmofdaaGreatDoor.Lex
open Go.RowKit Go.Proofs.YtbobbognjmofdaaGreatDoorW.PrintWords Go.Proofs.YtbobbognjmofdaaGreatDoorW.PrintLast Go.Proofs.YtbobbognjmofdaaGreatDoorW.PrintMore
open Go.Proofs.YtbobbognjmofdaaGreatDoor.Ptext
set_option linter.unusedVariables false
set_option linter.unusedSimpArgs false
set_option maxRecDepth 8000 in
set_option maxHeartbeats 8000000 in
theorem parseType_any (E : PE) (W1 : World) (l : List S24) (bad : Bool) (hpt : ∀ p : Int, 0 ≤ p → p < E.s.size → ((ptS E.s p).2 = 0 ∨ 1 ≤ (ptS E.s p).2 ∧ (ptS E.s p).2 ≤ 4 ∧ p + (ptS E.s p).2 ≤ E.s.size)) :
    ∀ (n : Nat) (x : PS) (i : Nat) (t : S24) (w : World) (pe : Int), Pk E W1 w t pe → At E.s l bad i t → x.at_ = i → x.bad = false → (typd n l x).2.unsure = false → 61 ≤ x.deep + n → x.deep ≤ 60 →
    Calls Tryz.prog 74 #[.pointer (some ⟨E.P, 0, none⟩)] w fun e w' => TypeT E W1 l bad (typd n l x) e w' ∧ Adv E w w'
  | 0, x, i, t, w, pe, hp, hat, hi, hb, hu, hn, hd => by omega
  | n + 1, x, i, t, w, pe, hp, hat, hi, hb, hu, hn, hd => by
    have HPT := Aside0.mk hpt
    obtain ⟨hd1, hc⟩ := typd_sure hb hu
    obtain ⟨R, hR⟩ : ∃ R, R = typd (n + 1) l x := ⟨_, rfl⟩
    rw [← hR] at hc hu ⊢
    have hkt : kd l x.at_ = t.f0 := by rw [hi]; exact hat.kd
    have c5 := (blk_cell hp.parser 5).trans rfl
    have c6 := (blk_cell hp.parser 6).trans rfl
    have c7 := (blk_cell hp.parser 7).trans rfl
    have c8 := (blk_cell hp.parser 8).trans rfl
    have HP := Aside0.mk hp
    rcases hc with ⟨k10, qu, q11, hty⟩ | ⟨k15, hty⟩
    · have ht0 : t.f0 = 10 := hkt.symm.trans k10
      have hne1 : t.f0 ≠ 1 := by rw [ht0]; decide
      obtain ⟨a0, a1, K, N, a2, a3, hN⟩ := at_next hpt hat hne1
      have hil := hat.lt hne1
      obtain ⟨q, hq⟩ : ∃ q, q = typd n l ⟨x.at_ + 1, x.deep + 1, x.wrong, false, x.unsure⟩ := ⟨_, rfl⟩
      have hnn : ∃ t', N = some t' ∧ At E.s l bad (i + 1) t' := by
        rcases hN with ⟨-, hbad, hlen⟩ | h
        · exfalso
          cases n with
          | zero => omega
          | succ m =>
            obtain ⟨_, h2⟩ := typd_sure (x := ⟨x.at_ + 1, x.deep + 1, x.wrong, false, x.unsure⟩) rfl qu
            have hk1 : kd l (x.at_ + 1) = 1 := kd_end (by rw [hi]; omega)
            rcases h2 with ⟨h2, -⟩ | ⟨h2, -⟩
            · have h2 : kd l (x.at_ + 1) = 10 := h2; omega
            · have h2 : kd l (x.at_ + 1) = 15 := h2; omega
        · exact h
      obtain ⟨t', rfl, hat'⟩ := hnn
      have hdn : (x.deep + 1) ≤ 60 := hd1
      have HIH := Aside0.mk (fun W pe' (hpk : Pk E W1 W t' pe') => parseType_any E W1 l bad hpt n ⟨x.at_ + 1, x.deep + 1, x.wrong, false, x.unsure⟩ (i + 1) t' W pe' hpk hat' (by show x.at_ + 1 = _; rw [hi]; omega) rfl qu (by show 61 ≤ x.deep + 1 + n; omega) hdn)
      rw [← hq] at HIH q11 qu hty
      have HAD := Aside0.mk (fun W pe' (hpk : Pk E W1 W t pe') => advance_any E W1 W t pe' (some t') K hpk a0 a1 a2 a3)
      have HTY := Aside0.mk hty
      have HQ11 := Aside0.mk q11
      obtain ⟨t0, t1, t2, t3'⟩ := t
      obtain rfl : t0 = 10 := ht0
      clear hR hu hty hkt k10 qu q11 hq hat hN hat' a0 a1 a2 a3 hp hil hi hb hd hn hd1 hdn hne1 hpt
      go_enter Tryz.func74, Tryz.ntmps74
      go_wp2_with fail
      obtain ⟨Wt, hWt⟩ : ∃ Wt, Wt = w.alloc (.cells #[.int .i64 10, .int .i64 t2, .int .i64 t3', .string t1] 58) := ⟨_, rfl⟩
      have hbt : Wt.heap[w.heap.size]? = some (.cells #[.int .i64 10, .int .i64 t2, .int .i64 t3', .string t1] 58 (0, 0)) := by rw [hWt]; exact blk_new _ _
      have hBt : Below w.heap.size w Wt := by rw [hWt]; exact below_alloc (Below.refl _ _) _
      rw [← hWt]
      clear hWt c5 c6 c7 c8
      have HBT := Aside0.mk hbt
      have HBt := Aside0.mk hBt
      clear hbt hBt
      refine (HAD.out Wt pe (HP.out.keep HBt.out)).mono ?_
      rintro e w2 ⟨⟨rfl, hp2⟩, ad2⟩
      have HP2 := Aside0.mk hp2
      have HA2 := Aside0.mk ((Adv.of_below HBt.out).trans ad2)
      have HT2 := Aside0.mk (ad2.typed (HP.out.keep HBt.out) HBT.out (by decide) (by decide))
      clear hp2 ad2
      go_wp2_with fail
      refine (HIH.out w2 _ HP2.out).mono ?_
      rintro e w3 ⟨h3, ad3⟩
      have HA3 := Aside0.mk (HA2.out.trans ad3)
      have HT3 := Aside0.mk (ad3.typed HP2.out HT2.out (by decide) (by decide))
      clear ad3
      rcases h3 with ⟨href, z, rfl⟩ | ⟨hb3, v3, ty3, tj, pe3, j, rfl, hr3, hn3, ha3, hat3, hp3⟩
      · have HREF : Aside0 (Refd l bad R.2) := ⟨by
          rw [HTY.out]
          refine .inl (typE_bad ?_)
          rcases href with h | ⟨-, h⟩
          · unfold PS.musted
            have : q.2.takes l 11 = false := by unfold PS.takes; rw [h]; rfl
            rw [this]
            exact PS.failed_bad _
          · exfalso
            have := HQ11.out
            rw [h, kd_end rfl] at this
            cases this⟩
        clear href
        go_wp2_with fail
        go_ret2
        exact ⟨.inl ⟨HREF.out, z, rfl⟩, HA3.out⟩
      · have htj : tj.f0 = 11 := by rw [← hat3.kd, ← ha3]; exact HQ11.out
        obtain ⟨b0, b1, K2, N2, b2, b3, hN2⟩ := at_next HPT.out hat3 (by rw [htj]; decide)
        have HAD2 := Aside0.mk (advance_any E W1 w3 tj pe3 N2 K2 hp3 b0 b1 b2 b3)
        have htk : q.2.musted l 11 = ⟨q.2.at_ + 1, q.2.deep, q.2.wrong, false, q.2.unsure⟩ := by
          unfold PS.musted
          have : q.2.takes l 11 = true := by unfold PS.takes; rw [hb3, HQ11.out]; rfl
          rw [if_pos this, hb3]
        obtain ⟨T3, x3, rfl⟩ := hr3.iface
        have HR3 := Aside0.mk hr3
        have HP3 := Aside0.mk hp3
        have HF3 := Aside0.mk (And.intro hn3 (And.intro ha3 htk))
        clear hr3 hp3 hn3 ha3 hat3 htj b0 b1 b2 b3 htk hb3
        go_wp2_with fail
        refine HAD2.out.mono ?_
        rintro e w4 ⟨h4, ad4⟩
        have HA4 := Aside0.mk (HA3.out.trans ad4)
        have HT4 := Aside0.mk (ad4.typed HP3.out HT3.out (by decide) (by decide))
        have HR4 := Aside0.mk (HR3.out.keep (KeepT.of_adv HP3.out ad4))
        clear ad4
        rcases hN2 with ⟨rfl, hbad, hlen⟩ | ⟨t3, rfl, hat5⟩
        · obtain ⟨z, rfl⟩ := h4
          have HREF : Aside0 (Refd l bad R.2) := ⟨by
            rw [HTY.out, HF3.out.2.2]
            have hk : kd l (q.2.at_ + 1) ≠ 2 := by rw [kd_end (by rw [HF3.out.2.1]; omega)]; decide
            rw [typE_no hk]
            exact .inr ⟨hbad, by show q.2.at_ + 1 = _; rw [HF3.out.2.1]; omega⟩⟩
          clear hbad hlen
          go_wp2_with fail
          go_ret2
          exact ⟨.inl ⟨HREF.out, z, rfl⟩, HA4.out⟩
        · obtain ⟨rfl, hp4⟩ := h4
          have HP4 := Aside0.mk hp4
          have s4 := (blk_cell HT4.out 1).trans rfl
          have HAT' := Aside0.mk hat5
          clear hp4 hat5
          go_wp2_with fail
          refine (loc_any E W1 w4 t3 tj.f3 _ HP4.out).mono ?_
          rintro e w4b ⟨⟨q4, rfl, hq4⟩, hb4⟩
          have HQ4 := Aside0.mk hq4
          have HB4 := Aside0.mk hb4
          clear hq4 hb4
          go_wp2_with fail
          refine (newList_any w4b.heap.size q4 ⟨#[]⟩ (.iface T3 x3) _ (blk_new _ _) ⟨_, _, rfl⟩).mono ?_
          rintro e w5 ⟨⟨r5, rfl, hr5⟩, hb5⟩
          have hB5 : Below w4b.heap.size w4b w5 := (below_alloc (Below.refl _ _) _).trans (hb5.mono (by simp))
          have hB45 : Below w4.heap.size w4 w5 := HB4.out.trans (hB5.mono HB4.out.size)
          obtain ⟨ty5, hty5⟩ : ∃ ty5, ty5 = Ty.list ty3 := ⟨_, rfl⟩
          obtain ⟨pe5, hpe5⟩ : ∃ pe5, pe5 = tj.f3 := ⟨_, rfl⟩
          have HR5 : Aside0 (RepT w5 ty5 (.iface 133 (.pointer (some ⟨r5, 0, none⟩)))) := ⟨by rw [hty5]; exact ⟨_, _, _, _, rfl, hr5, HQ4.out.below hB5, HR4.out.keep (KeepT.of_below hB45)⟩⟩
          have HP5 : Aside0 (Pk E W1 w5 t3 pe5) := ⟨by rw [hpe5]; exact HP4.out.keep hB45⟩
          have HA5 := Aside0.mk (HA4.out.trans (Adv.of_below hB45))
          have HTB := Aside0.mk (blk_below HT4.out hB45)
          obtain ⟨y, hy⟩ : ∃ y : PS, y = ⟨q.2.at_ + 1, q.2.deep, q.2.wrong, false, q.2.unsure⟩ := ⟨_, rfl⟩
          obtain ⟨j, hj⟩ : ∃ j' : Nat, j' = j + 1 := ⟨_, rfl⟩
          have HAT : Aside0 (At E.s l bad j t3) := ⟨by rw [hj]; exact HAT'.out⟩
          have HYE : Aside0 (R = typE l (ty5.nodes, y) ∧ y.bad = false ∧ y.at_ = j) := ⟨⟨by rw [HTY.out, HF3.out.2.2, HF3.out.1, hty5, hy]; rfl, by rw [hy], by rw [hy, hj]; show q.2.at_ + 1 = _; rw [HF3.out.2.1]; omega⟩⟩
          clear hr5 hb5 hB5 hB45 hty5 hpe5 hy hj s4
          obtain ⟨hye, hyb, hya⟩ := HYE.out
          have hkd : kd l y.at_ = t3.f0 := by rw [hya]; exact HAT.out.kd
          by_cases h2 : t3.f0 = 2
          · have hE := typE_yes (o := ty5.nodes) hyb (hkd.trans h2)
            obtain ⟨z0, z1, K3, N3, z2, z3, hz⟩ := at_next HPT.out HAT.out (by rw [h2]; decide)
            have hsk := skip_yes E W1 w5 t3 pe5 N3 K3 HP5.out z0 z1 z2 z3
            rw [h2] at hsk
            have HSK := Aside0.mk hsk
            have HE := Aside0.mk hE
            have HYA := Aside0.mk hya
            clear hye hyb hya hkd hE z0 z1 z2 z3 hsk h2
            go_wp2_with fail
            refine HSK.out.mono ?_
            rintro e w6 ⟨hs6, ad6⟩
            have HA6 := Aside0.mk (HA5.out.trans ad6)
            have HK6 := Aside0.mk (KeepT.of_adv HP5.out ad6)
            clear ad6
            rcases hz with ⟨rfl, hbad, hlen⟩ | ⟨t4, rfl, hat4⟩
            · obtain ⟨q, rfl⟩ := hs6
              have HREF : Aside0 (Refd l bad (typE l (ty5.nodes, y)).2) := ⟨by rw [HE.out]; exact .inr ⟨hbad, by show y.at_ + 1 = _; rw [HYA.out]; omega⟩⟩
              clear hbad hlen
              go_wp2_with fail
              go_ret2
              exact ⟨by rw [HYE.out.1]; exact .inl ⟨HREF.out, q, rfl⟩, HA6.out⟩
            · obtain ⟨rfl, hp6⟩ := hs6
              have HP6 := Aside0.mk hp6
              have HAT4 := Aside0.mk hat4
              have hb6 := HK6.out _ _ _ HTB.out (by decide) (by decide)
              have s6 := (blk_cell hb6 1).trans rfl
              have HR6 := Aside0.mk (HR5.out.keep HK6.out)
              clear hp6 hat4
              go_wp2_with fail
              refine (loc_any E W1 w6 t4 t3.f3 _ HP6.out).mono ?_
              rintro e w7 ⟨⟨q7, rfl, hq7⟩, hb7⟩
              have HQ7 := Aside0.mk hq7
              have HB7 := Aside0.mk hb7
              have HR7 := Aside0.mk (HR6.out.keep (KeepT.of_below hb7))
              clear hq7 hb7
              go_wp2_with fail
              refine (newNonNull_any w7.heap.size q7 ⟨#[]⟩ (.iface 133 (.pointer (some ⟨r5, 0, none⟩))) _ (blk_new _ _) ⟨_, _, rfl⟩).mono ?_
              rintro e w8 ⟨⟨r8, rfl, hr8⟩, hb8⟩
              have hB8 : Below w7.heap.size w7 w8 := (below_alloc (Below.refl _ _) _).trans (hb8.mono (by simp))
              have HB8 := Aside0.mk hB8
              have HR8 := Aside0.mk hr8
              clear hr8 hb8 hB8
              go_wp2_with fail
              go_ret2
              refine ⟨by
                rw [HYE.out.1, HE.out]
                exact .inr ⟨rfl, _, .must ty5, t4, _, j + 1, rfl, ⟨_, _, _, _, rfl, HR8.out, HQ7.out.below HB8.out, HR7.out.keep (KeepT.of_below HB8.out)⟩, rfl, by show y.at_ + 1 = _; rw [HYA.out]; omega, HAT4.out, (HP6.out.keep HB7.out).keep HB8.out⟩, ?_⟩
              exact (HA6.out.trans (Adv.of_below HB7.out)).trans (Adv.of_below HB8.out)
          · have hE := typE_no (o := ty5.nodes) (y := y) (l := l) (by rw [hkd]; exact h2)
            have HSK := Aside0.mk (skip_no E W1 w5 t3 pe5 2 HP5.out h2)
            have HE := Aside0.mk hE
            clear hkd hE h2
            go_wp2_with fail
            refine HSK.out.mono ?_
            rintro e w6 ⟨rfl, rfl⟩
            go_wp2_with fail
            go_ret2
            exact ⟨by rw [HYE.out.1, HE.out]; exact .inr ⟨HYE.out.2.1, _, ty5, t3, _, j, rfl, HR5.out, rfl, HYE.out.2.2, HAT.out, HP5.out⟩, HA5.out⟩
    · have ht0 : t.f0 = 15 := hkt.symm.trans k15
      have hne1 : t.f0 ≠ 1 := by rw [ht0]; decide
      obtain ⟨a0, a1, K, N, a2, a3, hN⟩ := at_next hpt hat hne1
      have hil := hat.lt hne1
      have hrd : rd_T24 l x.at_ = t := by rw [hi]; exact hat.rd hil
      rw [hrd] at hty
      have HNA := Aside0.mk (fun W pe' (hpk : Pk E W1 W t pe') => parseNamed_any E W1 W t pe' N K hpk a0 a1 a2 a3 ht0)
      have HTY := Aside0.mk hty
      have HXI := Aside0.mk hi
      obtain ⟨t0, t1, t2, t3'⟩ := t
      obtain rfl : t0 = 15 := ht0
      clear hR hu hty hkt k15 hat a0 a1 a2 a3 hp hi hb hd hn hd1 hne1 hpt hrd
      go_enter Tryz.func74, Tryz.ntmps74
      go_wp2_with fail
      obtain ⟨Wt, hWt⟩ : ∃ Wt, Wt = w.alloc (.cells #[.int .i64 15, .int .i64 t2, .int .i64 t3', .string t1] 58) := ⟨_, rfl⟩
      have hbt : Wt.heap[w.heap.size]? = some (.cells #[.int .i64 15, .int .i64 t2, .int .i64 t3', .string t1] 58 (0, 0)) := by rw [hWt]; exact blk_new _ _
      have hBt : Below w.heap.size w Wt := by rw [hWt]; exact below_alloc (Below.refl _ _) _
      rw [← hWt]
      clear hWt c5 c6 c7 c8
      have HBT := Aside0.mk hbt
      have HBt := Aside0.mk hBt
      clear hbt hBt
      refine (HNA.out Wt pe (HP.out.keep HBt.out)).mono ?_
      rintro e w5 ⟨h5, ad5⟩
      have HA5 := Aside0.mk ((Adv.of_below HBt.out).trans ad5)
      have HTB := Aside0.mk (ad5.typed (HP.out.keep HBt.out) HBT.out (by decide) (by decide))
      clear ad5
      rcases hN with ⟨rfl, hbad, hlen⟩ | ⟨t3, rfl, hat5⟩
      · obtain ⟨z, rfl⟩ := h5
        have HREF : Aside0 (Refd l bad R.2) := ⟨by
          rw [HTY.out]
          have hk : kd l (x.at_ + 1) ≠ 2 := by rw [kd_end (by rw [HXI.out]; omega)]; decide
          rw [typE_no hk]
          exact .inr ⟨hbad, by show x.at_ + 1 = _; rw [HXI.out]; omega⟩⟩
        clear hbad hlen
        go_wp2_with fail
        go_ret2
        exact ⟨.inl ⟨HREF.out, z, rfl⟩, HA5.out⟩
      · obtain ⟨⟨r5, rfl, hr5⟩, hp5⟩ := h5
        obtain ⟨ty5, hty5⟩ : ∃ ty5, ty5 = Ty.named t1 := ⟨_, rfl⟩
        obtain ⟨pe5, hpe5⟩ : ∃ pe5, pe5 = t3' := ⟨_, rfl⟩
        have HR5 : Aside0 (RepT w5 ty5 (.iface 126 (.pointer (some ⟨r5, 0, none⟩)))) := ⟨by rw [hty5]; exact ⟨_, rfl, hr5⟩⟩
        have HP5 : Aside0 (Pk E W1 w5 t3 pe5) := ⟨by rw [hpe5]; exact hp5⟩
        obtain ⟨y, hy⟩ : ∃ y : PS, y = ⟨x.at_ + 1, x.deep + 1, x.wrong, false, x.unsure⟩ := ⟨_, rfl⟩
        obtain ⟨j, hj⟩ : ∃ j' : Nat, j' = i + 1 := ⟨_, rfl⟩
        have HAT : Aside0 (At E.s l bad j t3) := ⟨by rw [hj]; exact hat5⟩
        have HYE : Aside0 (R = typE l (ty5.nodes, y) ∧ y.bad = false ∧ y.at_ = j) := ⟨⟨by rw [HTY.out, hty5, hy]; rfl, by rw [hy], by rw [hy, hj]; show x.at_ + 1 = _; rw [HXI.out]; omega⟩⟩
        clear hr5 hp5 hty5 hpe5 hy hj hat5
        obtain ⟨hye, hyb, hya⟩ := HYE.out
        have hkd : kd l y.at_ = t3.f0 := by rw [hya]; exact HAT.out.kd
        by_cases h2 : t3.f0 = 2
        · have hE := typE_yes (o := ty5.nodes) hyb (hkd.trans h2)
          obtain ⟨z0, z1, K3, N3, z2, z3, hz⟩ := at_next HPT.out HAT.out (by rw [h2]; decide)
          have hsk := skip_yes E W1 w5 t3 pe5 N3 K3 HP5.out z0 z1 z2 z3
          rw [h2] at hsk
          have HSK := Aside0.mk hsk
          have HE := Aside0.mk hE
          have HYA := Aside0.mk hya
          clear hye hyb hya hkd hE z0 z1 z2 z3 hsk h2
          go_wp2_with fail
          refine HSK.out.mono ?_
          rintro e w6 ⟨hs6, ad6⟩
          have HA6 := Aside0.mk (HA5.out.trans ad6)
          have HK6 := Aside0.mk (KeepT.of_adv HP5.out ad6)
          clear ad6
          rcases hz with ⟨rfl, hbad, hlen⟩ | ⟨t4, rfl, hat4⟩
          · obtain ⟨q, rfl⟩ := hs6
            have HREF : Aside0 (Refd l bad (typE l (ty5.nodes, y)).2) := ⟨by rw [HE.out]; exact .inr ⟨hbad, by show y.at_ + 1 = _; rw [HYA.out]; omega⟩⟩
            clear hbad hlen
            go_wp2_with fail
            go_ret2
            exact ⟨by rw [HYE.out.1]; exact .inl ⟨HREF.out, q, rfl⟩, HA6.out⟩
          · obtain ⟨rfl, hp6⟩ := hs6
            have HP6 := Aside0.mk hp6
            have HAT4 := Aside0.mk hat4
            have hb6 := HK6.out _ _ _ HTB.out (by decide) (by decide)
            have s6 := (blk_cell hb6 1).trans rfl
            have HR6 := Aside0.mk (HR5.out.keep HK6.out)
            clear hp6 hat4
            go_wp2_with fail
            refine (loc_any E W1 w6 t4 t3.f3 _ HP6.out).mono ?_
            rintro e w7 ⟨⟨q7, rfl, hq7⟩, hb7⟩
            have HQ7 := Aside0.mk hq7
            have HB7 := Aside0.mk hb7
            have HR7 := Aside0.mk (HR6.out.keep (KeepT.of_below hb7))
            clear hq7 hb7
            go_wp2_with fail
            refine (newNonNull_any w7.heap.size q7 ⟨#[]⟩ (.iface 126 (.pointer (some ⟨r5, 0, none⟩))) _ (blk_new _ _) ⟨_, _, rfl⟩).mono ?_
            rintro e w8 ⟨⟨r8, rfl, hr8⟩, hb8⟩
            have hB8 : Below w7.heap.size w7 w8 := (below_alloc (Below.refl _ _) _).trans (hb8.mono (by simp))
            have HB8 := Aside0.mk hB8
            have HR8 := Aside0.mk hr8
            clear hr8 hb8 hB8
            go_wp2_with fail
            go_ret2
            refine ⟨by
              rw [HYE.out.1, HE.out]
              exact .inr ⟨rfl, _, .must ty5, t4, _, j + 1, rfl, ⟨_, _, _, _, rfl, HR8.out, HQ7.out.below HB8.out, HR7.out.keep (KeepT.of_below HB8.out)⟩, rfl, by show y.at_ + 1 = _; rw [HYA.out]; omega, HAT4.out, (HP6.out.keep HB7.out).keep HB8.out⟩, ?_⟩
            exact (HA6.out.trans (Adv.of_below HB7.out)).trans (Adv.of_below HB8.out)
        · have hE := typE_no (o := ty5.nodes) (y := y) (l := l) (by rw [hkd]; exact h2)
          have HSK := Aside0.mk (skip_no E W1 w5 t3 pe5 2 HP5.out h2)
          have HE := Aside0.mk hE
          clear hkd hE h2
          go_wp2_with fail
          refine HSK.out.mono ?_
          rintro e w6 ⟨rfl, rfl⟩
          go_wp2_with fail
          go_ret2
          exact ⟨by rw [HYE.out.1, HE.out]; exact .inr ⟨HYE.out.2.1, _, ty5, t3, _, j, rfl, HR5.out, rfl, HYE.out.2.2, HAT.out, HP5.out⟩, HA5.out⟩
end Go.Proofs.YtbobbognjmofdaaGreatDoor.Lex
