/-
  The package's parser's step to the next token, walked.
-/
import Derived.Test.YtbobbognjmofdaaGreatDoorPrE
namespace Go.Proofs.YtbobbognjmofdaaGreatDoor.Lex
open Go.RowKit Go.Proofs.YtbobbognjmofdaaGreatDoorW.PrintWords Go.Proofs.YtbobbognjmofdaaGreatDoorW.PrintLast Go.Proofs.YtbobbognjmofdaaGreatDoorW.PrintMore
open Go.Proofs.YtbobbognjmofdaaGreatDoor.Ptext
set_option linter.unusedVariables false
set_option linter.unusedSimpArgs false
set_option maxHeartbeats 2000000 in
theorem advance_any (E : PE) (W1 w : World) (t : S24) (pe : Int) (N : Option S24) (K : Nat) (h : Pk E W1 w t pe) (h0 : 0 ≤ t.f3) (h1 : t.f3 ≤ E.s.size) (hK : (E.s.size : Int) < t.f3 + K) (hN : nxt E.s K t.f3 false = (N, false)) :
    Calls Tryz.prog 116 #[.pointer (some ⟨E.P, 0, none⟩)] w fun e w' => Advd E W1 t.f3 N e w' ∧ Adv E w w' := by
  have H := Aside0.mk h
  obtain ⟨Wa, hWa⟩ : ∃ Wa, Wa = w.setCell ⟨E.P, 4, none⟩ (.int .i64 t.f3) := ⟨_, rfl⟩
  have hA : Pk E W1 Wa t t.f3 := by
    rw [hWa]
    exact { h with parser := (blk_set h.parser 4 _).trans rfl, place := blk_far h.place (p := ⟨E.P, 4, none⟩) h.ne1.symm _, source := blk_far h.source (p := ⟨E.P, 4, none⟩) h.ne3 _, below := h.below.setCell h.bP _ }
  have hWA : Adv E w Wa := by
    have s := (Below.refl 0 w).setCell (p := ⟨E.P, 4, none⟩) (Nat.zero_le _) (.int .i64 t.f3)
    rw [hWa]
    exact ⟨s.os, s.tape, s.output, by simp, fun k _ h1 _ => Below.heap_setCell w ⟨E.P, 4, none⟩ _ k h1, fun a ha => ⟨t.f2, (blk_cell (blk_set h.parser 4 _) 6).trans rfl⟩⟩
  have HWa := Aside0.mk hWA
  have HL := Aside0.mk (fun W (hb : Below Wa.heap.size Wa W) => (hA.keep hb).lex h0 h1 hK hN)
  have HA := Aside0.mk hA
  have HWA := Aside0.mk hWa
  have c4 := (blk_cell h.parser 4).trans rfl
  have c7 := (blk_cell h.parser 7).trans rfl
  have fz := fun j => blk_frozen h.parser j
  have n1 := h.ne1
  have n3 := h.ne3
  have n2 := h.ne2
  clear h hA hWa hN hWA
  have HMV := Aside0.mk (fun W (hb : Below Wa.heap.size Wa W) w2 r (hm : Moved E.pb (some r) W w2) => (HA.out.keep hb).moved hm)
  have npb : Wa.heap.size ≠ E.pb := by have := blk_lt HA.out.place; omega
  have npb2 : E.pb ≠ Wa.heap.size := npb.symm
  have nP : E.P ≠ E.pb := n1
  have hPl := blk_lt HA.out.parser
  go_enter Tryz.func116, Tryz.ntmps116
  go_upto_region 2 with fail
  rw [← HWA.out]
  go_cut [3, 4] (fun v3 v4 wc => Aside0 (CutAdv E W1 Wa t N v3 v4 wc))
  case first =>
    have d0 := (blk_cell HA.out.parser 0).trans rfl
    have d4 := (blk_cell HA.out.parser 4).trans rfl
    have fd := fun j => blk_frozen HA.out.parser j
    obtain ⟨t0, t1, t2, t3⟩ := t
    clear c4 c7 fz
    cases N with
    | none =>
      go_region_with (go_at_call 67; refine (HL.out _ ?_).mono ?_; (first | exact below_drew (Below.refl _ _) | exact below_drew (below_alloc (Below.refl _ _) _)); rintro e w2 ⟨he2, hm2⟩; obtain ⟨x, rfl⟩ := he2; (first | (have e0 : w2.heap[Wa.heap.size]? = some (.cells #[.int .i64 0, .int .i64 0, .int .i64 0, .string ⟨#[]⟩] 58 (0, 0)) := (Below.block hm2 _ (by simp)).trans (blk_new Wa _); have q0 := (blk_cell e0 0).trans rfl; have q1 := (blk_cell e0 1).trans rfl; have q2 := (blk_cell e0 2).trans rfl; have q3 := (blk_cell e0 3).trans rfl; have fe := fun j => blk_frozen e0 j; have E0 := Aside0.mk e0; clear e0) | skip); have HM2 := Aside0.mk hm2; clear hm2)
      all_goals
        go_wp2_with fail
        go_meet
        case rel =>
          first
          | (have hm : Below Wa.drew.heap.size Wa.drew w2 := HM2.out
             have hb : Below Wa.heap.size Wa w2 := Below.trans (below_drew (Below.refl Wa.heap.size Wa)) hm
             exact ⟨⟨Adv.of_below (below_alloc hb _), x, rfl⟩⟩)
          | (have hm : Below (Wa.alloc (.cells #[.int .i64 0, .int .i64 0, .int .i64 0, .string ⟨#[]⟩] 58)).drew.heap.size (Wa.alloc (.cells #[.int .i64 0, .int .i64 0, .int .i64 0, .string ⟨#[]⟩] 58)).drew w2 := HM2.out
             have hb : Below Wa.heap.size Wa w2 := (below_drew (below_alloc (Below.refl Wa.heap.size Wa) _)).trans (hm.mono (by simp))
             exact ⟨⟨Adv.of_below (set4_below hb (Nat.le_refl _) _ _ _ _), x, rfl⟩⟩)
    | some t' =>
      obtain ⟨r0, r1, r2, r3⟩ := t'
      go_region_with (go_at_call 67; refine (HL.out _ ?_).mono ?_; (first | exact below_drew (Below.refl _ _) | exact below_drew (below_alloc (Below.refl _ _) _)); rintro e w2 ⟨he2, hm2⟩; obtain rfl : e = .returned (.tuple #[tk r0 r2 r3 r1, .nilIface]) := he2; (first | (have e0 : w2.heap[Wa.heap.size]? = some (.cells #[.int .i64 0, .int .i64 0, .int .i64 0, .string ⟨#[]⟩] 58 (0, 0)) := (HMV.out _ (by first | exact below_drew (Below.refl _ _) | exact below_drew (below_alloc (Below.refl _ _) _)) _ _ hm2).2.2 Wa.heap.size 58 _ (blk_new Wa _) npb; have q0 := (blk_cell e0 0).trans rfl; have q1 := (blk_cell e0 1).trans rfl; have q2 := (blk_cell e0 2).trans rfl; have q3 := (blk_cell e0 3).trans rfl; have fe := fun j => blk_frozen e0 j; have E0 := Aside0.mk e0; clear e0) | skip); have HM2 := Aside0.mk hm2; clear hm2)
      all_goals
        go_wp2_with fail
        go_meet
        case rel =>
          first
          | (obtain ⟨m1, m2, m3⟩ := HMV.out _ (below_drew (Below.refl _ _)) _ _ HM2.out
             have ad : Adv E Wa (w2.alloc (.cells #[.int .i64 r0, .int .i64 r2, .int .i64 r3, .string r1] 58)) := (Adv.of_below (below_drew (Below.refl _ _))).trans (m2.trans (Adv.of_below (below_alloc (Below.refl _ _) _)))
             exact ⟨⟨ad, rfl, _, rfl, blk_new _ _, m2.size, blk_alloc (m3 E.P 125 _ HA.out.parser n1) _, blk_alloc m1 _, blk_alloc (m3 E.sb 72 _ HA.out.source n2) _, HA.out.below.trans (ad.below HA.out.below.size HA.out.bP HA.out.bpb)⟩⟩)
          | (obtain ⟨m1, m2, m3⟩ := HMV.out _ (below_drew (below_alloc (Below.refl _ _) _)) _ _ HM2.out
             have ad : Adv E Wa ((((w2.setCell ⟨Wa.heap.size, 0, none⟩ (.int .i64 r0)).setCell ⟨Wa.heap.size, 1, none⟩ (.int .i64 r2)).setCell ⟨Wa.heap.size, 2, none⟩ (.int .i64 r3)).setCell ⟨Wa.heap.size, 3, none⟩ (.string r1)) := ((((((Adv.of_below (below_drew (below_alloc (Below.refl _ _) _))).trans m2).set (Nat.le_refl _) _ _).set (Nat.le_refl _) _ _).set (Nat.le_refl _) _ _).set (Nat.le_refl _) _ _)
             have e0 := m3 Wa.heap.size 58 _ (blk_new Wa _) npb
             exact ⟨⟨ad, rfl, _, rfl, set4_at e0 _ _ _ _, Nat.le_refl _, set4_far (m3 E.P 125 _ (blk_alloc HA.out.parser _) n1) (by omega) _ _ _ _, set4_far m1 npb2 _ _ _ _, set4_far (m3 E.sb 72 _ (blk_alloc HA.out.source _) n2) (by have := blk_lt HA.out.source; omega) _ _ _ _, HA.out.below.trans (ad.below HA.out.below.size HA.out.bP HA.out.bpb)⟩⟩)
  case rest =>
    have hc := hcut.out
    clear hcut
    cases N with
    | none =>
      obtain ⟨ad, x, rfl⟩ := hc
      have AD := Aside0.mk ad
      clear ad
      go_wp2_with fail
      go_ret
      exact ⟨⟨x, rfl⟩, HWa.out.trans AD.out⟩
    | some r =>
      obtain ⟨ad, rfl, k, rfl, hk, hle, p1, p2, p3, p4⟩ := hc
      obtain ⟨r0, r1, r2, r3⟩ := r
      have AD := Aside0.mk ad
      have P1 := Aside0.mk p1
      have P2 := Aside0.mk p2
      have P3 := Aside0.mk p3
      have P4 := Aside0.mk p4
      have k0 := (blk_cell hk 0).trans rfl
      have k1 := (blk_cell hk 1).trans rfl
      have k2 := (blk_cell hk 2).trans rfl
      have k3 := (blk_cell hk 3).trans rfl
      have c5 := (blk_cell p1 5).trans rfl
      have c6 := (blk_cell p1 6).trans rfl
      have c7' := (blk_cell p1 7).trans rfl
      have c8 := (blk_cell p1 8).trans rfl
      have fc := fun j => blk_frozen p1 j
      clear ad p1 p2 p3 p4 c4 c7 fz hk
      go_wp2_with fail
      go_ret
      refine ⟨⟨rfl, ?_⟩, HWa.out.trans ((((AD.out.own 5 (.int .i64 r0) (.inl (by decide))).own 6 (.int .i64 r2) (.inr ⟨_, rfl⟩)).own 7 (.int .i64 r3) (.inl (by decide))).own 8 (.string r1) (.inl (by decide)))⟩
      exact { HA.out with
        parser := (blk_set (blk_set (blk_set (blk_set P1.out 5 (.int .i64 r0)) 6 (.int .i64 r2)) 7 (.int .i64 r3)) 8 (.string r1)).trans rfl
        place := blk_far (p := ⟨E.P, 8, none⟩) (blk_far (p := ⟨E.P, 7, none⟩) (blk_far (p := ⟨E.P, 6, none⟩) (blk_far (p := ⟨E.P, 5, none⟩) P2.out n1.symm _) n1.symm _) n1.symm _) n1.symm _
        source := blk_far (p := ⟨E.P, 8, none⟩) (blk_far (p := ⟨E.P, 7, none⟩) (blk_far (p := ⟨E.P, 6, none⟩) (blk_far (p := ⟨E.P, 5, none⟩) P3.out n3 _) n3 _) n3 _) n3 _
        below := (((P4.out.setCell HA.out.bP _).setCell HA.out.bP _).setCell HA.out.bP _).setCell HA.out.bP _ }
end Go.Proofs.YtbobbognjmofdaaGreatDoor.Lex
