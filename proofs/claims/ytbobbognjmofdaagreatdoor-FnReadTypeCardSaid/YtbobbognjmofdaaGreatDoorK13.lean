import Derived.Test.YtbobbognjmofdaaGreatDoorK12
import Derived.Test.YtbobbognjmofdaaGreatDoorK04
section
/-
  The package's readNumber, walked: it tells the number at a place, or an error.
-/
namespace Go.Proofs.YtbobbognjmofdaaGreatDoor.Lex
open Go.RowKit Go.Proofs.YtbobbognjmofdaaGreatDoorW.PrintWords Go.Proofs.YtbobbognjmofdaaGreatDoorW.PrintLast Go.Proofs.YtbobbognjmofdaaGreatDoorW.PrintMore
open Go.Proofs.YtbobbognjmofdaaGreatDoor.Ptext
set_option linter.unusedVariables false
set_option linter.unusedSimpArgs false
/-- A number at a place as a token. -/
def numTok (s : ByteArray) (p : Int) : Option (Int × Int × Int × ByteArray) := (num s p).map fun q => (q.1, p, q.2, s.extract p.toNat q.2.toNat)
theorem num_a {s : ByteArray} {p : Int} (h : isDg (nx s (sgnp s p)) = false) : numTok s p = none := by unfold numTok; rw [num_none1 h]; rfl
theorem num_b {s : ByteArray} {p : Int} (h : nx s (sgnp s p) = 48) (h2 : isDg (nx s (sgnp s p + 1)) = true) : numTok s p = none := by unfold numTok num; rw [if_pos (.inr ⟨h, h2⟩)]; rfl
theorem num_c {s : ByteArray} {p : Int} (h : isDg (nx s (sgnp s p)) = true) (h2 : ¬ (nx s (sgnp s p) = 48 ∧ isDg (nx s (sgnp s p + 1)) = true)) : num s p = (frac s (dge s (sgnp s p))).bind fun q => expo s q.1 q.2 := by
  unfold num
  rw [if_neg]
  rintro (h3 | h3)
  · rw [h] at h3; cases h3
  · exact h2 h3
theorem conv_sub (W : World) (b c : Nat) (s : ByteArray) (p e : Int) (h : Src W b c s) (h0 : 0 ≤ p) (h1 : p ≤ e) (h2 : e ≤ s.size) (cap : Nat) :
    (convert 74 9 (.slice (some ⟨b, p.toNat, none⟩) (e.toNat - p.toNat) cap)).run Tryz.prog W = .ok (.string (s.extract p.toNat e.toNat)) W := by
  have key := run_convert_bytes_arg (P := Tryz.prog) W 74 5 Tryz.underlying74 Tryz.underlying5 b p.toNat (e.toNat - p.toNat) cap ((Bv.by' (s.extract p.toNat e.toNat)).map fun x => (x.toNat : Int))
    (by rw [List.length_map, Bv.by_length, ByteArray.size_extract]; omega)
    (fun i hi => by
      have hc := h.cell (p + (i : Int)) (by omega) (by omega)
      rw [show (p + (i : Int)).toNat = p.toNat + i by omega] at hc
      rw [hc]
      have hz : (s.extract p.toNat e.toNat).size = e.toNat - p.toNat := by rw [ByteArray.size_extract]; omega
      obtain ⟨x, hx1, hx2⟩ := Bv.bt_by (s := s.extract p.toNat e.toNat) (i := i) (by omega)
      have hl : i < (Bv.by' (s.extract p.toNat e.toNat)).length := by rw [Bv.by_length]; omega
      have hx3 : bt s (p + (i : Int)) = (x.toNat : Int) := by
        rw [← hx2, Bv.extract_mk] 
        rw [Bv.extract_mk] at hx1
        rw [Bv.by_mk] at hx1
        rw [List.getElem?_drop, List.getElem?_take] at hx1
        rw [if_pos (by omega)] at hx1
        obtain ⟨y, hy1, hy2⟩ := Bv.bt_by (s := s) (i := p.toNat + i) (by omega)
        rw [hy1] at hx1
        rw [show p + (i : Int) = ((p.toNat + i : Nat) : Int) by omega, hy2]
        rw [← Bv.extract_mk, hx2]
        rw [Option.some.inj hx1]
      rw [List.getD, List.getElem?_map, hx1, hx3]
      rfl) 9 Tryz.underlying9
  have e2 : strOfNums ((Bv.by' (s.extract p.toNat e.toNat)).map fun x => (x.toNat : Int)) = s.extract p.toNat e.toNat := by
    apply Bv.ba_ext
    show (strOfNums _).data.toList = _
    rw [strOfNums_data, List.map_map]
    refine (List.map_congr_left (fun x _ => ?_)).trans (List.map_id _)
    show UInt8.ofNat ((x.toNat : Int)).toNat = x
    rw [Int.toNat_natCast]
    exact UInt8.ofNat_toNat
  rw [e2] at key
  exact key
set_option maxRecDepth 4000 in
set_option maxHeartbeats 8000000 in
theorem readNumber_any (s : ByteArray) (g b c : Nat) (p : Int) (w : World) (h : Src w b c s) (hg : w.cell? ⟨g, 0, none⟩ = some (.slice (some ⟨b, 0, none⟩) s.size c)) (hs : s.size ≤ 2000) (h0 : 0 ≤ p) (hp : p < s.size) :
    Calls Tryz.prog 107 #[.pointer (some ⟨g, 0, none⟩), .int .i64 p, .int .i32 (rn s p).1, .int .i64 (rn s p).2] w fun e w' => Told e (numTok s p) ∧ Below w.heap.size w w' := by
  have hg1 : ∀ o, (w.alloc o).cell? ⟨g, 0, none⟩ = some (.slice (some ⟨b, 0, none⟩) s.size c) := fun o => PFnReadString.old_cell (below_alloc (Below.refl _ _) o) hg
  have HS := Aside0.mk h
  obtain ⟨T, hT⟩ : ∃ T, T = numTok s p := ⟨_, rfl⟩
  rw [← hT]
  have HT := Aside0.mk hT
  obtain ⟨⟨cd, n⟩, hrn⟩ : ∃ r, r = rn s p := ⟨_, rfl⟩
  have his := rn_is s p 45 h0 (by decide) (by decide)
  rw [← hrn] at his ⊢
  have HRN := Aside0.mk hrn
  obtain ⟨a, ha⟩ : ∃ a, a = sgnp s p := ⟨_, rfl⟩
  have hal := sgnp_le s p
  have hal2 : sgnp s p ≤ s.size := by unfold sgnp; split <;> omega
  rw [← ha] at hal hal2
  have HA := Aside0.mk ha
  clear h hg hT hrn ha
  go_enter Tryz.func107, Tryz.ntmps107
  go_upto_if 29 with fail
  obtain ⟨W1, hW1⟩ : ∃ W1, W1 = w.alloc (.cells #[.int .i64 0, .int .i64 0, .int .i64 0, .string ⟨#[]⟩] 58) := ⟨_, rfl⟩
  have hB1 : Below w.heap.size w W1 := by rw [hW1]; exact below_alloc (Below.refl _ _) _
  have hE1 : W1.heap[w.heap.size]? = some (.cells #[.int .i64 0, .int .i64 0, .int .i64 0, .string ⟨#[]⟩] 58 (0, 0)) := by
    rw [hW1]; exact heap_alloc_new _ _
  have hz1 : W1.heap.size = w.heap.size + 1 := by rw [hW1]; simp
  have hg1 : W1.cell? ⟨g, 0, none⟩ = some (.slice (some ⟨b, 0, none⟩) s.size c) := by rw [hW1]; exact hg1 _
  rw [← hW1]
  have HB1 := Aside0.mk hB1
  have HE1 := Aside0.mk hE1
  have HZ1 := Aside0.mk hz1
  have HG1 := Aside0.mk hg1
  have HS1 := Aside0.mk (HS.out.below hB1)
  have HX1 := Aside0.mk (Below.refl W1.heap.size W1)
  clear hW1 hB1 hE1 hz1 hg1 HS
  go_cut [3, 10, 12] (fun v3 v10 v12 wc => v3 = .int .i64 (rn s a).2 ∧ v10 = .int .i32 (rn s a).1 ∧ v12 = .int .i64 a ∧ Aside0 (Below W1.heap.size W1 wc))
  case first =>
    by_cases e1 : cd = 45
    · have b1 : (cd == 45) = true := by simp [e1]
      obtain rfl : n = 1 := his.2 (his.1.1 e1)
      have h1 : p + 1 = a := by rw [HA.out]; unfold sgnp; rw [if_pos (his.1.1 e1)]
      have H1 := Aside0.mk h1
      clear h1 e1 his
      go_wp2_with fail
      refine (runeAt_any s b c (p + 1) _ (HS1.out.below HX1.out) hs (by omega) (by omega)).mono ?_
      rintro e w2 ⟨rfl, hb2⟩
      have HX2 : Aside0 (Below W1.heap.size W1 w2) := ⟨below_then HX1.out HX1.out.size hb2⟩
      clear hb2
      go_wp2_with fail
      go_meet
      case rel => rw [← H1.out]; exact ⟨rfl, rfl, rfl, ⟨HX2.out⟩⟩
    · have b1 : (cd == 45) = false := by simp [e1]
      have h1 : p = a := by rw [HA.out]; unfold sgnp; rw [if_neg (fun h => e1 (his.1.2 h))]
      have H1 := Aside0.mk h1
      clear h1 e1 his
      go_wp2_with fail
      go_meet
      case rel => rw [← H1.out, ← HRN.out]; exact ⟨rfl, rfl, rfl, ⟨HX1.out⟩⟩
  case rest =>
  obtain ⟨rfl, rfl, rfl, HX2⟩ := hcut
  clear his
  obtain ⟨w2, rfl⟩ : ∃ w9, w9 = wc := ⟨_, rfl⟩
  obtain ⟨⟨ca, na⟩, hrn⟩ : ∃ r, r = rn s a := ⟨_, rfl⟩
  have his := rn_is s a 48 (by omega) (by decide) (by decide)
  rw [← hrn] at his ⊢
  have HRA := Aside0.mk hrn
  obtain ⟨t1, ht1⟩ : ∃ t, t = dge s a := ⟨_, rfl⟩
  have ht1l := dge_le s a
  rw [← ht1] at ht1l
  have ht1a := ht1l.1
  have ht1b := ht1l.2 hal2
  have HT1 := Aside0.mk ht1
  clear hrn ht1 ht1l
  go_upto_if 40 with fail
  go_cut [3, 10, 12] (fun v3 v10 v12 wc => v3 = .int .i64 (rn s t1).2 ∧ v10 = .int .i32 (rn s t1).1 ∧ v12 = .int .i64 t1 ∧ Aside0 (T = ((frac s t1).bind fun q => expo s q.1 q.2).map fun q => (q.1, p, q.2, s.extract p.toNat q.2.toNat)) ∧ Aside0 (Below W1.heap.size W1 wc))
  case first =>
    by_cases e1 : ca = 48
    · have b1 : (ca == 48) = true := by simp [e1]
      have hx48 := his.1.1 e1
      obtain rfl : na = 1 := his.2 hx48
      have hlt : a < (s.size : Int) := nx_in (by omega)
      have hdg := rn_dg s (a + 1) (by omega)
      have hd0 : isDg (nx s a) = true := by rw [hx48]; rfl
      clear e1 his
      go_wp2_with fail
      refine (runeAt_any s b c (a + 1) _ (HS1.out.below HX2.out) hs (by omega) (by omega)).mono ?_
      rintro e w3 ⟨rfl, hb2⟩
      have HX3 : Aside0 (Below W1.heap.size W1 w3) := ⟨below_then HX2.out HX2.out.size hb2⟩
      clear hb2
      obtain ⟨⟨cb, nb⟩, hrn⟩ : ∃ r, r = rn s (a + 1) := ⟨_, rfl⟩
      rw [← hrn] at hdg ⊢
      have HRB := Aside0.mk hrn
      clear hrn
      cases hd : isDg (nx s (a + 1)) with
      | true =>
        obtain ⟨hd1, hd2⟩ := hdg.1.2 hd
        have b2 : decide (cb ≥ 48) = true := decide_eq_true hd1
        have b3 : decide (cb ≤ 57) = true := decide_eq_true hd2
        have hf : T = none := by rw [HT.out]; exact num_b (by rw [← HA.out]; exact hx48) (by rw [← HA.out]; exact hd)
        have HF := Aside0.mk hf
        clear hdg hd hf hd1 hd2
        go_wp2_with fail
        refine (PFnReadString.synErr_any s g (some ⟨b, 0, none⟩) c (a + 1) _ _ (PFnReadString.old_cell HX3.out HG1.out) (HS1.out.below HX3.out).cells (HS1.out.below HX3.out).le hs (by omega) (by omega)).mono ?_
        rintro e w4 ⟨⟨q, rfl⟩, hb9⟩
        have HX4 : Aside0 (Below W1.heap.size W1 w4) := ⟨below_then HX3.out HX3.out.size hb9⟩
        clear hb9
        have e0 : w4.heap[w.heap.size]? = some (.cells #[.int .i64 0, .int .i64 0, .int .i64 0, .string ⟨#[]⟩] 58 (0, 0)) := (HX4.out.block _ (by have := HZ1.out; omega)).trans HE1.out
        have d0 := (blk_cell e0 0).trans rfl
        have d1 := (blk_cell e0 1).trans rfl
        have d2 := (blk_cell e0 2).trans rfl
        have d3 := (blk_cell e0 3).trans rfl
        have f0 := fun j => blk_frozen e0 j
        have E0 := Aside0.mk e0
        clear e0
        go_wp2_with fail
        obtain ⟨q0, q1, q2, q3⟩ := res4 E0.out (.int .i64 0) (.int .i64 0) (.int .i64 0) (.string ⟨#[]⟩)
        refine bodyPost_ret (v := .tuple #[tk 0 0 0 ⟨#[]⟩, .iface 182 (.pointer (some ⟨q, 0, none⟩))]) (by simp [results, Tryz.results107, go_sem, q0, q1, q2, q3]) rfl ⟨?_, ?_⟩
        · rw [HF.out]
          exact ⟨q, rfl⟩
        · exact set4_below (HB1.out.trans (HX4.out.mono (by have := HZ1.out; omega))) (Nat.le_refl _) _ _ _ _
      | false =>
        have hnd : ¬ (48 ≤ cb ∧ cb ≤ 57) := fun h => by rw [hdg.1.1 h] at hd; cases hd
        have ht : a + 1 = t1 := by rw [HT1.out, (dge_some hd0).1, dge_none hd]
        have hf : T = ((frac s t1).bind fun q => expo s q.1 q.2).map fun q => (q.1, p, q.2, s.extract p.toNat q.2.toNat) := by
          rw [HT.out]; unfold numTok
          rw [num_c (by rw [← HA.out]; exact hd0) (by rw [← HA.out, hd]; simp), ← HA.out, ← HT1.out]
        have HF := Aside0.mk hf
        have HTT := Aside0.mk ht
        clear hdg hd hf ht
        by_cases e2 : cb ≥ 48
        · have b2 : decide (cb ≥ 48) = true := decide_eq_true e2
          have b3 : decide (cb ≤ 57) = false := decide_eq_false (by omega)
          go_wp2_with fail
          go_meet
          case rel => rw [← HTT.out, ← HRB.out]; exact ⟨rfl, rfl, rfl, ⟨by rw [HTT.out]; exact HF.out⟩, ⟨HX3.out⟩⟩
        · have b2 : decide (cb ≥ 48) = false := decide_eq_false e2
          go_wp2_with fail
          go_meet
          case rel => rw [← HTT.out, ← HRB.out]; exact ⟨rfl, rfl, rfl, ⟨by rw [HTT.out]; exact HF.out⟩, ⟨HX3.out⟩⟩
    · have b1 : (ca == 48) = false := by simp [e1]
      have hx48 : nx s a ≠ 48 := fun h => e1 (his.1.2 h)
      clear e1 his
      go_wp2_with fail
      have hdd := (readDigits_any s g b c a _ (HS1.out.below HX2.out) (PFnReadString.old_cell HX2.out HG1.out) hs (by omega) (by omega))
      rw [← HRA.out] at hdd
      refine hdd.mono ?_
      clear hdd
      rintro e w3 ⟨he, hb2⟩
      have HX3 : Aside0 (Below W1.heap.size W1 w3) := ⟨below_then HX2.out HX2.out.size hb2⟩
      clear hb2
      cases hd : isDg (nx s a) with
      | true =>
        rw [if_pos hd] at he
        subst he
        rw [← HT1.out]
        have hf : T = ((frac s t1).bind fun q => expo s q.1 q.2).map fun q => (q.1, p, q.2, s.extract p.toNat q.2.toNat) := by
          rw [HT.out]; unfold numTok
          rw [num_c (by rw [← HA.out]; exact hd) (by rw [← HA.out]; exact fun h => hx48 h.1), ← HA.out, ← HT1.out]
        have HF := Aside0.mk hf
        clear hf hd
        go_wp2_with fail
        refine (runeAt_any s b c t1 _ (HS1.out.below HX3.out) hs (by omega) (by omega)).mono ?_
        rintro e w4 ⟨rfl, hb2⟩
        have HX4 : Aside0 (Below W1.heap.size W1 w4) := ⟨below_then HX3.out HX3.out.size hb2⟩
        clear hb2
        go_wp2_with fail
        go_meet
        case rel => exact ⟨rfl, rfl, rfl, ⟨HF.out⟩, ⟨HX4.out⟩⟩
      | false =>
        rw [if_neg (by simp [hd])] at he
        obtain ⟨q, rfl⟩ := he
        have hf : T = none := by rw [HT.out]; exact num_a (by rw [← HA.out]; exact hd)
        have HF := Aside0.mk hf
        clear hf hd
        have e0 : w3.heap[w.heap.size]? = some (.cells #[.int .i64 0, .int .i64 0, .int .i64 0, .string ⟨#[]⟩] 58 (0, 0)) := (HX3.out.block _ (by have := HZ1.out; omega)).trans HE1.out
        have d0 := (blk_cell e0 0).trans rfl
        have d1 := (blk_cell e0 1).trans rfl
        have d2 := (blk_cell e0 2).trans rfl
        have d3 := (blk_cell e0 3).trans rfl
        have f0 := fun j => blk_frozen e0 j
        have E0 := Aside0.mk e0
        clear e0
        go_wp2_with fail
        obtain ⟨q0, q1, q2, q3⟩ := res4 E0.out (.int .i64 0) (.int .i64 0) (.int .i64 0) (.string ⟨#[]⟩)
        refine bodyPost_ret (v := .tuple #[tk 0 0 0 ⟨#[]⟩, .iface 182 (.pointer (some ⟨q, 0, none⟩))]) (by simp [results, Tryz.results107, go_sem, q0, q1, q2, q3]) rfl ⟨?_, ?_⟩
        · rw [HF.out]
          exact ⟨q, rfl⟩
        · exact set4_below (HB1.out.trans (HX3.out.mono (by have := HZ1.out; omega))) (Nat.le_refl _) _ _ _ _
  case rest =>
  obtain ⟨rfl, rfl, rfl, HF1, HX3⟩ := hcut
  clear his
  obtain ⟨w3, rfl⟩ : ∃ w9, w9 = wc := ⟨_, rfl⟩
  obtain ⟨⟨c1, n1⟩, hrn⟩ : ∃ r, r = rn s t1 := ⟨_, rfl⟩
  have his := rn_is s t1 46 (by omega) (by decide) (by decide)
  rw [← hrn] at his ⊢
  have HR1 := Aside0.mk hrn
  clear hrn
  go_upto_if 82 with fail
  go_cut [3, 10, 12, 13] (fun v3 v10 v12 v13 wc => ∃ (k t2 : Int), v3 = .int .i64 (rn s t2).2 ∧ v10 = .int .i32 (rn s t2).1 ∧ v12 = .int .i64 t2 ∧ v13 = .bool (k == 17) ∧ Aside0 (frac s t1 = some (k, t2) ∧ (k = 16 ∨ k = 17) ∧ p ≤ t2 ∧ t2 ≤ s.size) ∧ Aside0 (Below W1.heap.size W1 wc))
  case first =>
    by_cases e1 : c1 = 46
    · have b1 : (c1 == 46) = true := by simp [e1]
      have hx46 := his.1.1 e1
      obtain rfl : n1 = 1 := his.2 hx46
      have hlt : t1 < (s.size : Int) := nx_in (by omega)
      obtain ⟨t2, ht2⟩ : ∃ t, t = dge s (t1 + 1) := ⟨_, rfl⟩
      have hl2 := dge_le s (t1 + 1)
      rw [← ht2] at hl2
      have hl2a := hl2.1
      have hl2b := hl2.2 (by omega)
      have HT2 := Aside0.mk ht2
      clear e1 his ht2 hl2
      go_wp2_with fail
      refine (runeAt_any s b c (t1 + 1) _ (HS1.out.below HX3.out) hs (by omega) (by omega)).mono ?_
      rintro e w4 ⟨rfl, hb2⟩
      have HX4 : Aside0 (Below W1.heap.size W1 w4) := ⟨below_then HX3.out HX3.out.size hb2⟩
      clear hb2
      go_wp2_with fail
      refine (readDigits_any s g b c (t1 + 1) _ (HS1.out.below HX4.out) (PFnReadString.old_cell HX4.out HG1.out) hs (by omega) (by omega)).mono ?_
      rintro e w5 ⟨he, hb2⟩
      have HX5 : Aside0 (Below W1.heap.size W1 w5) := ⟨below_then HX4.out HX4.out.size hb2⟩
      clear hb2
      cases hd : isDg (nx s (t1 + 1)) with
      | true =>
        rw [if_pos hd] at he
        subst he
        rw [← HT2.out]
        have hf : frac s t1 = some (17, t2) := by unfold frac; rw [if_pos hx46, if_pos hd, ← HT2.out]
        have HF := Aside0.mk hf
        clear hf hd
        go_wp2_with fail
        refine (runeAt_any s b c t2 _ (HS1.out.below HX5.out) hs (by omega) (by omega)).mono ?_
        rintro e w6 ⟨rfl, hb2⟩
        have HX6 : Aside0 (Below W1.heap.size W1 w6) := ⟨below_then HX5.out HX5.out.size hb2⟩
        clear hb2
        go_wp2_with fail
        go_meet
        case rel => exact ⟨17, t2, rfl, rfl, rfl, rfl, ⟨HF.out, .inr rfl, by omega, by omega⟩, ⟨HX6.out⟩⟩
      | false =>
        rw [if_neg (by simp [hd])] at he
        obtain ⟨q, rfl⟩ := he
        have hf : T = none := by rw [HF1.out]; unfold frac; rw [if_pos hx46, if_neg (by simp [hd])]; rfl
        have HF := Aside0.mk hf
        clear hf hd
        have e0 : w5.heap[w.heap.size]? = some (.cells #[.int .i64 0, .int .i64 0, .int .i64 0, .string ⟨#[]⟩] 58 (0, 0)) := (HX5.out.block _ (by have := HZ1.out; omega)).trans HE1.out
        have d0 := (blk_cell e0 0).trans rfl
        have d1 := (blk_cell e0 1).trans rfl
        have d2 := (blk_cell e0 2).trans rfl
        have d3 := (blk_cell e0 3).trans rfl
        have f0 := fun j => blk_frozen e0 j
        have E0 := Aside0.mk e0
        clear e0
        go_wp2_with fail
        obtain ⟨q0, q1, q2, q3⟩ := res4 E0.out (.int .i64 0) (.int .i64 0) (.int .i64 0) (.string ⟨#[]⟩)
        refine bodyPost_ret (v := .tuple #[tk 0 0 0 ⟨#[]⟩, .iface 182 (.pointer (some ⟨q, 0, none⟩))]) (by simp [results, Tryz.results107, go_sem, q0, q1, q2, q3]) rfl ⟨?_, ?_⟩
        · rw [HF.out]
          exact ⟨q, rfl⟩
        · exact set4_below (HB1.out.trans (HX5.out.mono (by have := HZ1.out; omega))) (Nat.le_refl _) _ _ _ _
    · have b1 : (c1 == 46) = false := by simp [e1]
      have hf : frac s t1 = some (16, t1) := by unfold frac; rw [if_neg (fun h => e1 (his.1.2 h))]
      have HF := Aside0.mk hf
      clear e1 his hf
      go_wp2_with fail
      go_meet
      case rel => exact ⟨16, t1, by rw [← HR1.out], by rw [← HR1.out], rfl, rfl, ⟨HF.out, .inl rfl, by omega, by omega⟩, ⟨HX3.out⟩⟩
  case rest =>
  obtain ⟨k, t2, rfl, rfl, rfl, rfl, HFR, HX4⟩ := hcut
  clear his
  obtain ⟨w4, rfl⟩ : ∃ w9, w9 = wc := ⟨_, rfl⟩
  have hk := HFR.out.2.1
  have hl2a := HFR.out.2.2.1
  have hl2b := HFR.out.2.2.2
  have hT2 : T = (expo s k t2).map fun q => (q.1, p, q.2, s.extract p.toNat q.2.toNat) := by rw [HF1.out, HFR.out.1]; rfl
  have HF2 := Aside0.mk hT2
  obtain ⟨⟨c2, n2_⟩, hrn⟩ : ∃ r, r = rn s t2 := ⟨_, rfl⟩
  have his := rn_is s t2 69 (by omega) (by decide) (by decide)
  have his2 := rn_is s t2 101 (by omega) (by decide) (by decide)
  rw [← hrn] at his his2 ⊢
  have HR2 := Aside0.mk hrn
  clear hrn hT2
  go_upto_region 28 with fail
  go_cut [116] (fun v116 wc => v116 = .bool (c2 == 69 || c2 == 101) ∧ wc = w4)
  case first =>
    by_cases e1 : c2 = 69
    · have b1 : (c2 == 69) = true := by simp [e1]
      clear e1 his his2
      go_wp2_with fail
      go_meet
      case rel => exact ⟨by rw [b1]; rfl, rfl⟩
    · have b1 : (c2 == 69) = false := by simp [e1]
      clear e1 his his2
      go_wp2_with fail
      go_meet
      case rel => exact ⟨by rw [b1]; rfl, rfl⟩
  case rest =>
  obtain ⟨rfl, rfl⟩ := hcut
  obtain ⟨w4, rfl⟩ : ∃ w9, w9 = wc := ⟨_, rfl⟩
  go_upto_if 116 with fail
  go_cut [12, 13] (fun v12 v13 wc => ∃ (k3 t3 : Int), v12 = .int .i64 t3 ∧ v13 = .bool (k3 == 17) ∧ Aside0 (expo s k t2 = some (k3, t3) ∧ (k3 = 16 ∨ k3 = 17) ∧ p ≤ t3 ∧ t3 ≤ s.size) ∧ Aside0 (Below W1.heap.size W1 wc))
  case first =>
    cases hb : (c2 == 69 || c2 == 101) with
    | true =>
      have hx : nx s t2 = 101 ∨ nx s t2 = 69 := by
        simp only [Bool.or_eq_true, beq_iff_eq] at hb
        rcases hb with h | h
        · exact .inr (his.1.1 h)
        · exact .inl (his2.1.1 h)
      obtain rfl : n2_ = 1 := by
        rcases hx with h | h
        · exact his2.2 h
        · exact his.2 h
      have hlt : t2 < (s.size : Int) := nx_in (by omega)
      obtain ⟨a3, ha3⟩ : ∃ t, t = epl s t2 := ⟨_, rfl⟩
      have he3 := epl_le s t2
      have he4 : epl s t2 ≤ s.size := by
        unfold epl
        split
        · rename_i h
          have := nx_in (s := s) (p := t2 + 1) (by omega)
          omega
        · omega
      rw [← ha3] at he3 he4
      have HA3 := Aside0.mk ha3
      have hex : expo s k t2 = if isDg (nx s a3) = true then some (17, dge s a3) else none := by unfold expo; rw [if_pos hx, ← ha3]
      have HEX := Aside0.mk hex
      obtain ⟨t4, ht4⟩ : ∃ t, t = dge s a3 := ⟨_, rfl⟩
      have hl4 := dge_le s a3
      rw [← ht4] at hl4
      have hl4a := hl4.1
      have hl4b := hl4.2 he4
      have HT4 := Aside0.mk ht4
      clear hb his his2 ha3 hex ht4 hl4
      go_wp2_with fail
      refine (runeAt_any s b c (t2 + 1) _ (HS1.out.below HX4.out) hs (by omega) (by omega)).mono ?_
      rintro e w5 ⟨rfl, hb2⟩
      have HX5 : Aside0 (Below W1.heap.size W1 w5) := ⟨below_then HX4.out HX4.out.size hb2⟩
      clear hb2
      obtain ⟨⟨c3, n3_⟩, hrn⟩ : ∃ r, r = rn s (t2 + 1) := ⟨_, rfl⟩
      have his := rn_is s (t2 + 1) 43 (by omega) (by decide) (by decide)
      have his2 := rn_is s (t2 + 1) 45 (by omega) (by decide) (by decide)
      rw [← hrn] at his his2 ⊢
      have HR3 := Aside0.mk hrn
      clear hrn
      go_upto_region 32 with fail
      go_cut [131] (fun v131 wc => v131 = .bool (c3 == 43 || c3 == 45) ∧ wc = w5)
      case first =>
        by_cases e1 : c3 = 43
        · have b1 : (c3 == 43) = true := by simp [e1]
          clear e1 his his2
          go_wp2_with fail
          go_meet
          case rel => exact ⟨by rw [b1]; rfl, rfl⟩
        · have b1 : (c3 == 43) = false := by simp [e1]
          clear e1 his his2
          go_wp2_with fail
          go_meet
          case rel => exact ⟨by rw [b1]; rfl, rfl⟩
      case rest =>
      obtain ⟨rfl, rfl⟩ := hcut
      obtain ⟨w5, rfl⟩ : ∃ w9, w9 = wc := ⟨_, rfl⟩
      go_upto_if 131 with fail
      go_cut [3, 10, 12] (fun v3 v10 v12 wc => v3 = .int .i64 (rn s a3).2 ∧ v10 = .int .i32 (rn s a3).1 ∧ v12 = .int .i64 a3 ∧ Aside0 (Below W1.heap.size W1 wc))
      case first =>
        cases hb : (c3 == 43 || c3 == 45) with
        | true =>
          have hx : nx s (t2 + 1) = 43 ∨ nx s (t2 + 1) = 45 := by
            simp only [Bool.or_eq_true, beq_iff_eq] at hb
            rcases hb with h | h
            · exact .inl (his.1.1 h)
            · exact .inr (his2.1.1 h)
          obtain rfl : n3_ = 1 := by
            rcases hx with h | h
            · exact his.2 h
            · exact his2.2 h
          have h3 : t2 + 2 = a3 := by rw [HA3.out]; unfold epl; rw [if_pos hx]
          have H3 := Aside0.mk h3
          clear hb his his2 hx h3
          go_wp2_with fail
          have h22 : t2 + 1 + 1 = t2 + 2 := by omega
          (try rw [h22])
          refine (runeAt_any s b c (t2 + 2) _ (HS1.out.below HX5.out) hs (by omega) (by omega)).mono ?_
          rintro e w6 ⟨rfl, hb2⟩
          have HX6 : Aside0 (Below W1.heap.size W1 w6) := ⟨below_then HX5.out HX5.out.size hb2⟩
          clear hb2
          go_wp2_with fail
          go_meet
          case rel => rw [← H3.out]; exact ⟨rfl, rfl, (by first | rfl | (congr 1; omega)), ⟨HX6.out⟩⟩
        | false =>
          have hx : ¬ (nx s (t2 + 1) = 43 ∨ nx s (t2 + 1) = 45) := by
            simp only [Bool.or_eq_false_iff, beq_eq_false_iff_ne] at hb
            rintro (h | h)
            · exact hb.1 (his.1.2 h)
            · exact hb.2 (his2.1.2 h)
          have h3 : t2 + 1 = a3 := by rw [HA3.out]; unfold epl; rw [if_neg hx]
          have H3 := Aside0.mk h3
          clear hb his his2 hx h3
          go_wp2_with fail
          go_meet
          case rel => rw [← H3.out, ← HR3.out]; exact ⟨rfl, rfl, rfl, ⟨HX5.out⟩⟩
      case rest =>
      obtain ⟨rfl, rfl, rfl, HX6⟩ := hcut
      clear his his2
      obtain ⟨w6, rfl⟩ : ∃ w9, w9 = wc := ⟨_, rfl⟩
      go_wp2_with fail
      refine (readDigits_any s g b c a3 _ (HS1.out.below HX6.out) (PFnReadString.old_cell HX6.out HG1.out) hs (by omega) (by omega)).mono ?_
      rintro e w7 ⟨he, hb2⟩
      have HX7 : Aside0 (Below W1.heap.size W1 w7) := ⟨below_then HX6.out HX6.out.size hb2⟩
      clear hb2
      cases hd : isDg (nx s a3) with
      | true =>
        rw [if_pos hd] at he
        subst he
        rw [← HT4.out]
        have hf : expo s k t2 = some (17, t4) := by rw [HEX.out, if_pos hd, ← HT4.out]
        have HF := Aside0.mk hf
        clear hf hd
        go_wp2_with fail
        go_meet
        case rel => exact ⟨17, t4, rfl, rfl, ⟨HF.out, .inr rfl, by omega, by omega⟩, ⟨HX7.out⟩⟩
      | false =>
        rw [if_neg (by simp [hd])] at he
        obtain ⟨q, rfl⟩ := he
        have hf : T = none := by rw [HF2.out, HEX.out, if_neg (by simp [hd])]; rfl
        have HF := Aside0.mk hf
        clear hf hd
        have e0 : w7.heap[w.heap.size]? = some (.cells #[.int .i64 0, .int .i64 0, .int .i64 0, .string ⟨#[]⟩] 58 (0, 0)) := (HX7.out.block _ (by have := HZ1.out; omega)).trans HE1.out
        have d0 := (blk_cell e0 0).trans rfl
        have d1 := (blk_cell e0 1).trans rfl
        have d2 := (blk_cell e0 2).trans rfl
        have d3 := (blk_cell e0 3).trans rfl
        have f0 := fun j => blk_frozen e0 j
        have E0 := Aside0.mk e0
        clear e0
        go_wp2_with fail
        obtain ⟨q0, q1, q2, q3⟩ := res4 E0.out (.int .i64 0) (.int .i64 0) (.int .i64 0) (.string ⟨#[]⟩)
        refine bodyPost_ret (v := .tuple #[tk 0 0 0 ⟨#[]⟩, .iface 182 (.pointer (some ⟨q, 0, none⟩))]) (by simp [results, Tryz.results107, go_sem, q0, q1, q2, q3]) rfl ⟨?_, ?_⟩
        · rw [HF.out]
          exact ⟨q, rfl⟩
        · exact set4_below (HB1.out.trans (HX7.out.mono (by have := HZ1.out; omega))) (Nat.le_refl _) _ _ _ _
    | false =>
      have hf : expo s k t2 = some (k, t2) := by
        simp only [Bool.or_eq_false_iff, beq_eq_false_iff_ne] at hb
        unfold expo
        rw [if_neg]
        rintro (h | h)
        · exact hb.2 (his2.1.2 h)
        · exact hb.1 (his.1.2 h)
      have HF := Aside0.mk hf
      clear hf hb his his2
      go_wp2_with fail
      go_meet
      case rel => exact ⟨k, t2, rfl, rfl, ⟨HF.out, hk, by omega, by omega⟩, ⟨HX4.out⟩⟩
  case rest =>
  obtain ⟨k3, t3, rfl, rfl, HF3, HX5⟩ := hcut
  clear his his2
  obtain ⟨w5, rfl⟩ : ∃ w9, w9 = wc := ⟨_, rfl⟩
  have hk3 := HF3.out.2.1
  have hl3a := HF3.out.2.2.1
  have hl3b := HF3.out.2.2.2
  go_upto_if 154 with fail
  go_cut [21] (fun v21 wc => v21 = .int .i64 k3 ∧ wc = w5)
  case first =>
    rcases hk3 with e | e
    · have b1 : (k3 == 17) = false := by simp [e]
      go_wp2_with fail
      go_meet
      case rel => exact ⟨by rw [e], rfl⟩
    · have b1 : (k3 == 17) = true := by simp [e]
      go_wp2_with fail
      go_meet
      case rel => exact ⟨by rw [e], rfl⟩
  case rest =>
  obtain ⟨rfl, rfl⟩ := hcut
  obtain ⟨w5, rfl⟩ : ∃ w9, w9 = wc := ⟨_, rfl⟩
  have HS5 := HS1.out.below HX5.out
  have hcap : (s.size : Int) ≤ (c : Int) := by have := HS5.le; omega
  have hne : ¬ (c = p.toNat) := by omega
  obtain ⟨v, hv⟩ : ∃ v, v = s.extract p.toNat t3.toNat := ⟨_, rfl⟩
  have kc := conv_sub w5 b c s p t3 HS5 h0 hl3a hl3b (c - p.toNat)
  rw [← hv] at kc
  have hf : T = some (k3, p, t3, v) := by rw [HF2.out, HF3.out.1, hv]; rfl
  have HF := Aside0.mk hf
  clear hf hk3 hk hv HS5
  go_wp2_with fail
  refine (PFnReadString.lexer_makeToken.calls k3 p t3 v k3 p t3 v _ rfl).mono ?_
  rintro e w9 ⟨rfl, hb9⟩
  have HX9 : Aside0 (Below W1.heap.size W1 w9) := ⟨below_then HX5.out HX5.out.size hb9⟩
  clear hb9
  have e0 : w9.heap[w.heap.size]? = some (.cells #[.int .i64 0, .int .i64 0, .int .i64 0, .string ⟨#[]⟩] 58 (0, 0)) := (HX9.out.block _ (by have := HZ1.out; omega)).trans HE1.out
  have d0 := (blk_cell e0 0).trans rfl
  have d1 := (blk_cell e0 1).trans rfl
  have d2 := (blk_cell e0 2).trans rfl
  have d3 := (blk_cell e0 3).trans rfl
  have f0 := fun j => blk_frozen e0 j
  have E0 := Aside0.mk e0
  clear e0 kc
  go_wp2_with fail
  obtain ⟨q0, q1, q2, q3⟩ := res4 E0.out (.int .i64 k3) (.int .i64 p) (.int .i64 t3) (.string v)
  refine bodyPost_ret (v := .tuple #[tk k3 p t3 v, .nilIface]) (by simp [results, Tryz.results107, go_sem, q0, q1, q2, q3]) rfl ⟨?_, ?_⟩
  · rw [HF.out]
    exact rfl
  · exact set4_below (HB1.out.trans (HX9.out.mono (by have := HZ1.out; omega))) (Nat.le_refl _) _ _ _ _
end Go.Proofs.YtbobbognjmofdaaGreatDoor.Lex
end
