import Derived.Test.YtbobbognjmofdaaGreatDoorK19
import Derived.Test.YtbobbognjmofdaaGreatDoorK20
import Derived.Test.YtbobbognjmofdaaGreatDoorK09
section
/-
  The package's Next and the thin package's, walked.
-/
namespace Go.Proofs.YtbobbognjmofdaaGreatDoor.Lex
open Go.RowKit Go.Proofs.YtbobbognjmofdaaGreatDoorW.PrintWords Go.Proofs.YtbobbognjmofdaaGreatDoorW.PrintLast Go.Proofs.YtbobbognjmofdaaGreatDoorW.PrintMore
open Go.Proofs.YtbobbognjmofdaaGreatDoor.Ptext
set_option linter.unusedVariables false
set_option linter.unusedSimpArgs false
set_option maxHeartbeats 1000000 in
theorem doorNext_any (s : ByteArray) (p : Int) (R : Option S24) (w : World) (hs : s.size ≤ 2000) (h0 : 0 ≤ p) (hp : p ≤ s.size) (hT : Lib.Utf8Tabs 1 2 w)
    (hR : nxt s (s.size + 1) p false = (R, false)) :
    Calls Tryz.prog 38 #[.string s, .int .i64 p] w fun e w' => Told e (ofS24 R) ∧ Below w.heap.size w w' := by
  have HT := Aside0.mk hT
  have HR := Aside0.mk hR
  clear hT hR
  obtain ⟨T, hT⟩ : ∃ T, T = ofS24 R := ⟨_, rfl⟩
  rw [← hT]
  have HTT := Aside0.mk hT
  clear hT
  have kb := fun W => print_bytes (P := Tryz.prog) 9 74 5 Tryz.underlying9 Tryz.underlying74 Tryz.underlying5 s W
  go_enter Tryz.func38, Tryz.ntmps38
  go_wp2_with fail
  obtain ⟨W0, hW0⟩ : ∃ W0, W0 = w.alloc (.cells #[.int .i64 0, .int .i64 0, .int .i64 0, .string ⟨#[]⟩] 58) := ⟨_, rfl⟩
  rw [← hW0]
  have hz : W0.heap.size = w.heap.size + 1 := by rw [hW0]; simp
  have hb : Below w.heap.size w W0 := by rw [hW0]; exact below_alloc (Below.refl _ _) _
  have he : W0.heap[w.heap.size]? = some (.cells #[.int .i64 0, .int .i64 0, .int .i64 0, .string ⟨#[]⟩] 58 (0, 0)) := by rw [hW0]; exact heap_alloc_new _ _
  clear hW0
  have hS := src_bytes W0 s hs (tabs_below HT.out hb)
  rw [hz] at hS
  have hB2 : Below (w.heap.size + 1) W0 (Lib.bytesWorld W0 5 s) := by
    have := bytes_below (Below.refl W0.heap.size W0) (Nat.le_refl _) 5 s
    rwa [hz] at this
  refine (readToken_any s (Lib.bytesWorld W0 5 s).heap.size (w.heap.size + 1) (grownCap W0 s.size 0 5) (s.size + 1) p R _ (hS.below (below_alloc (Below.refl _ _) _)) (by rw [World.cell?_alloc_new]; rfl) hs h0 hp (by omega) HR.out).mono ?_
  rw [← HTT.out]
  rintro e w2 ⟨he2, hb2⟩
  have hX : Below (w.heap.size + 1) W0 w2 := (hB2.alloc (by have := hB2.size; omega) _).trans (hb2.mono (by have := hB2.size; simp; omega))
  have e0 := (hX.block w.heap.size (by omega)).trans he
  have HB := Aside0.mk (hb.trans (hX.mono (by omega)))
  clear hX hB2 hb2 hS hb he
  have d0 := (blk_cell e0 0).trans rfl
  have d1 := (blk_cell e0 1).trans rfl
  have d2 := (blk_cell e0 2).trans rfl
  have d3 := (blk_cell e0 3).trans rfl
  have f0 := fun j => blk_frozen e0 j
  have E0 := Aside0.mk e0
  clear e0
  cases T with
  | none =>
    obtain ⟨q, rfl⟩ := he2
    go_wp2_with fail
    obtain ⟨q0, q1, q2, q3⟩ := res4 E0.out (.int .i64 0) (.int .i64 0) (.int .i64 0) (.string ⟨#[]⟩)
    refine bodyPost_ret (v := .tuple #[tk 0 0 0 ⟨#[]⟩, .iface 182 (.pointer (some ⟨q, 0, none⟩))]) (by simp [results, Tryz.results38, go_sem, q0, q1, q2, q3]) rfl ⟨?_, ?_⟩
    · exact ⟨q, rfl⟩
    · exact set4_below HB.out (Nat.le_refl _) _ _ _ _
  | some t =>
    obtain ⟨t0, t1, t2, t3⟩ := t
    obtain rfl : e = .returned (.tuple #[tk t0 t1 t2 t3, .nilIface]) := he2
    go_wp2_with fail
    obtain ⟨q0, q1, q2, q3⟩ := res4 E0.out (.int .i64 t0) (.int .i64 t1) (.int .i64 t2) (.string t3)
    refine bodyPost_ret (v := .tuple #[tk t0 t1 t2 t3, .nilIface]) (by simp [results, Tryz.results38, go_sem, q0, q1, q2, q3]) rfl ⟨?_, ?_⟩
    · exact rfl
    · exact set4_below HB.out (Nat.le_refl _) _ _ _ _
theorem tokOf_S24 (R : Option S24) : tokOf (ofS24 R) = R.getD ⟨0, ⟨#[]⟩, 0, 0⟩ := by cases R <;> rfl
set_option maxHeartbeats 1000000 in
theorem implNext_any (s : ByteArray) (p : Int) (R : Option S24) (w : World) (hs : s.size ≤ 2000) (h0 : 0 ≤ p) (hp : p ≤ s.size) (hT : Lib.Utf8Tabs 1 2 w)
    (hR : nxt s (s.size + 1) p false = (R, false)) :
    Calls Tryz.prog 16 #[.string s, .int .i64 p] w fun e w' => e = .returned (.tuple #[val24 (R.getD ⟨0, ⟨#[]⟩, 0, 0⟩), .bool R.isSome]) ∧ Below w.heap.size w w' := by
  have HT := Aside0.mk hT
  have HR := Aside0.mk hR
  clear hT hR
  obtain ⟨T, hTT⟩ : ∃ T, T = ofS24 R := ⟨_, rfl⟩
  have hso : R.isSome = T.isSome := by rw [hTT]; cases R <;> rfl
  rw [← tokOf_S24, ← hTT, hso]
  have HTT := Aside0.mk hTT
  clear hTT hso
  have b1 : decide (p < 0) = false := decide_eq_false (by omega)
  have b2 : decide (p > (s.size : Int)) = false := decide_eq_false (by omega)
  go_enter Tryz.func16, Tryz.ntmps16
  go_wp2_with fail
  refine (doorNext_any s p R _ hs h0 hp (tabs_below HT.out (below_alloc (Below.refl _ _) _)) HR.out).mono ?_
  rw [← HTT.out]
  rintro e w2 ⟨he2, hb2⟩
  have e0 : w2.heap[w.heap.size]? = some (.cells #[.int .i64 0, .string ⟨#[]⟩, .int .i64 0, .int .i64 0] 24 (0, 0)) := by
    rw [hb2.block _ (by simp)]; exact heap_alloc_new _ _
  have hz : w.heap.size < w2.heap.size := by have := hb2.size; simp at this; omega
  have HB := Aside0.mk ((below_alloc (Below.refl _ _) _).trans (hb2.mono (by simp)))
  clear hb2
  have d0 := (blk_cell e0 0).trans rfl
  have d1 := (blk_cell e0 1).trans rfl
  have d2 := (blk_cell e0 2).trans rfl
  have d3 := (blk_cell e0 3).trans rfl
  have f0 := fun j => blk_frozen e0 j
  have E0 := Aside0.mk e0
  clear e0
  cases T with
  | none =>
    obtain ⟨q, rfl⟩ := he2
    go_wp2_with fail
    obtain ⟨q0, q1, q2, q3⟩ := res4a E0.out (.int .i64 0) (.string ⟨#[]⟩) (.int .i64 0) (.int .i64 0) (.cells #[.int .i64 0, .int .i64 0, .int .i64 0, .string ⟨#[]⟩] 58)
    refine bodyPost_ret (v := .tuple #[.agg #[.int .i64 0, .string ⟨#[]⟩, .int .i64 0, .int .i64 0], .bool false]) (by simp [results, Tryz.results16, go_sem, q0, q1, q2, q3]) rfl ⟨rfl, ?_⟩
    exact (set4_below HB.out (Nat.le_refl _) _ _ _ _).alloc (by simp; omega) _
  | some t =>
    obtain ⟨t0, t1, t2, t3⟩ := t
    obtain rfl : e = .returned (.tuple #[tk t0 t1 t2 t3, .nilIface]) := he2
    go_wp2_with fail
    refine (PFnReadString.impl_token.calls t0 t1 t2 t3 t0 t3 t1 t2 _ rfl).mono ?_
    rintro e w3 ⟨rfl, hb3⟩
    have hX : Below w2.heap.size w2 w3 := (below_alloc (Below.refl _ _) _).trans (hb3.mono (by simp))
    have e0 := (hX.block w.heap.size hz).trans E0.out
    have HB3 := Aside0.mk (HB.out.trans (hX.mono (by omega)))
    clear hX hb3 d0 d1 d2 d3 f0
    have d0 := (blk_cell e0 0).trans rfl
    have d1 := (blk_cell e0 1).trans rfl
    have d2 := (blk_cell e0 2).trans rfl
    have d3 := (blk_cell e0 3).trans rfl
    have f0 := fun j => blk_frozen e0 j
    have E3 := Aside0.mk e0
    clear e0
    go_wp2_with fail
    obtain ⟨q0, q1, q2, q3⟩ := res4 E3.out (.int .i64 t0) (.string t3) (.int .i64 t1) (.int .i64 t2)
    refine bodyPost_ret (v := .tuple #[.agg #[.int .i64 t0, .string t3, .int .i64 t1, .int .i64 t2], .bool true]) (by simp [results, Tryz.results16, go_sem, q0, q1, q2, q3]) rfl ⟨rfl, ?_⟩
    exact set4_below HB3.out (Nat.le_refl _) _ _ _ _
end Go.Proofs.YtbobbognjmofdaaGreatDoor.Lex
end
section
/-
  The reference's step over a block string, walked.
-/
namespace Go.Proofs.YtbobbognjmofdaaGreatDoor.Lex
open Go.RowKit Go.Proofs.YtbobbognjmofdaaGreatDoorW.PrintWords Go.Proofs.YtbobbognjmofdaaGreatDoorW.PrintLast Go.Proofs.YtbobbognjmofdaaGreatDoorW.PrintMore
open Go.Proofs.YtbobbognjmofdaaGreatDoor.Ptext
set_option linter.unusedVariables false
set_option linter.unusedSimpArgs false
set_option maxRecDepth 4000 in
set_option maxHeartbeats 1000000 in
theorem block_any (base g : Nat) (x : LS) (w : World) (h : Lx w base g x) (hbase : base ≤ w.heap.size) (hi : 0 ≤ x.at_) (hi2 : x.at_ ≤ x.s.size) (hs : x.s.size ≤ 2000) (hl : (x.out.length + 1) * 40 ≤ 140737488355328)
   (hpt : ∀ p : Int, 0 ≤ p → p < x.s.size → spec_Point.f 12 x.s p = some (ptS x.s p) ∧ ((ptS x.s p).2 = 0 ∨ 1 ≤ (ptS x.s p).2 ∧ (ptS x.s p).2 ≤ 4 ∧ p + (ptS x.s p).2 ≤ x.s.size)) :
    Calls Tryz.prog 65 #[.pointer (some ⟨g, 0, none⟩)] w fun e w' => e = .returned (.tuple #[]) ∧ Lx w' base g (x.stp (ofBlk x.at_ (blk x.s (x.s.size + 1) (x.at_ + 3) ⟨#[]⟩ x.unsure))) ∧ Below base w w' := by
  have HX := Aside0.mk h
  have HPT := Aside0.mk hpt
  obtain ⟨v, c0, c1, c2, c3, c4, fz⟩ := h.cells
  clear h hpt
  obtain ⟨R, hR⟩ : ∃ R, R = blk x.s (x.s.size + 1) (x.at_ + 3) ⟨#[]⟩ x.unsure := ⟨_, rfl⟩
  rw [← hR]
  have HR := Aside0.mk hR
  clear hR
  go_enter Tryz.func65, Tryz.ntmps65
  go_wp2_with fail
  clear c0 c1 c2 c3 c4 fz
  go_loopg [2, 3] (x.s.size + 1) (fun kq v2 v3 wr => ∃ (p : Int) (o : ByteArray) (u : Bool), v2 = .string o ∧ v3 = .int .i64 p ∧ Aside0 (3 ≤ p ∧ p ≤ 10000 ∧ (x.s.size : Int) < p + kq ∧ (o.size : Int) ≤ p ∧ blk x.s kq p o u = R ∧ Lx wr base g { x with unsure := u } ∧ Below base w wr))
  case atStart => exact ⟨x.at_ + 3, ⟨#[]⟩, x.unsure, rfl, rfl, ⟨by omega, by omega, by omega, by show ((0 : Nat) : Int) ≤ _; omega, HR.out.symm, HX.out, Below.refl _ _⟩⟩
  case round =>
    obtain ⟨p, o, u, rfl, rfl, HA⟩ := hrel
    have hp1 := HA.out.1
    have hp2 := HA.out.2.1
    have hx := HA.out.2.2.2.2.2.1
    have HL := Aside0.mk hx
    have HBB := Aside0.mk HA.out.2.2.2.2.2.2
    obtain ⟨v, c0, c1, c2, c3, c4, fz⟩ := hx.cells
    clear hx
    by_cases hlt : p < (x.s.size : Int)
    · have hltb : decide (p < (x.s.size : Int)) = true := decide_eq_true hlt
      obtain ⟨k, rfl⟩ : ∃ k, gk = k + 1 := ⟨gk - 1, by have := HA.out.2.2.1; omega⟩
      have hrun := HA.out.2.2.2.2.1
      rw [blk, if_neg (by omega)] at hrun
      have HRUN := Aside0.mk hrun
      clear hrun
      have hos : (o.size : Int) ≤ p := HA.out.2.2.2.1
      have hq3 := starts_tells x.s [34, 34, 34] p (by omega) (by omega) (by omega) (by simp) (by decide) (by decide)
      have hq4 := starts_tells x.s [92, 34, 34, 34] p (by omega) (by omega) (by omega) (by simp) (by decide) (by decide)
      obtain ⟨b3, hb3⟩ : ∃ b, b = stL x.s p [34, 34, 34] := ⟨_, rfl⟩
      obtain ⟨b4, hb4⟩ : ∃ b, b = stL x.s p [92, 34, 34, 34] := ⟨_, rfl⟩
      rw [← hb3] at hq3
      rw [← hb4] at hq4
      have h3 : st3 x.s p 34 34 34 = b3 := by rw [hb3, st3_L]; rfl
      have h4 : (bt x.s p == 92 && st3 x.s (p + 1) 34 34 34) = b4 := by
        rw [hb4, stL, st3_L, nx_bt hlt]; rfl
      have hrun := HRUN.out
      rw [h3, h4] at hrun
      clear HRUN
      have HRUN := Aside0.mk hrun
      have HQ3 := Aside0.mk hq3
      have HQ4 := Aside0.mk hq4
      clear hrun hb3 hb4 h3 h4 hq3 hq4
      go_wp2_with fail
      refine (PFnTokens.spec_starts.calls x.s p _ b3 _ HQ3.out).mono ?_
      rintro e0 w2 ⟨rfl, hdw⟩
      have HL2 : Aside0 (Lx w2 base g { x with unsure := u }) := by obtain ⟨m9, rfl⟩ := hdw; exact ⟨HL.out.drewN m9⟩
      have HB2 : Aside0 (Below base w w2) := by obtain ⟨m9, rfl⟩ := hdw; exact ⟨pw_below_drewN HBB.out m9⟩
      clear hdw c0 c1 c2 c3 c4 fz v
      obtain ⟨v, c0, c1, c2, c3, c4, fz⟩ := HL2.out.cells
      cases b3 with
      | true =>
        have hfin : R = (some (p + 3, o), u) := by rw [← HRUN.out, if_pos rfl]
        have HF := Aside0.mk hfin
        have hpl := Bv.plain_tells o (by omega) 800000 (Nat.le_refl _)
        have hbv := Bv.spec_tells o (by omega) 800000 (Nat.le_refl _)
        have HPL := Aside0.mk (show PFnTokens.spec_plainBlock.f 800000 o = some (plainB o) from hpl)
        have HBV := Aside0.mk (show PFnTokens.spec_BlockValue.f 800000 o = some (bvs o) from hbv)
        clear hfin hpl hbv
        have tail : ∀ (b : Bool) (W : World), Lx W base g { x with unsure := u || !plainB o } → Below base w W →
            Calls Tryz.prog 104 #[.string o] W fun e w' => e = .returned (.string (bvs o)) ∧ Lx w' base g { x with unsure := u || !plainB o } ∧ Below base w w' := by
          intro b W h1 h2
          refine (PFnTokens.spec_BlockValue.calls 800000 o _ W HBV.out).mono ?_
          rintro e w3 ⟨rfl, hb3⟩
          exact ⟨rfl, h1.below hb3, below_then h2 (Nat.le_trans hbase h2.size) hb3⟩
        have TL := Aside0.mk tail
        clear tail
        rcases Bool.eq_false_or_eq_true u with hu | hu
        · subst hu
          have HL5 := Aside0.mk (show Lx (w2.setCell ⟨g, 4, none⟩ (.bool true)) base g { x with unsure := true || !plainB o } from HL2.out.set4 true)
          have HB5 := Aside0.mk (HL2.out.bset HB2.out 4 (.bool true))
          go_wp2_with fail
          refine (TL.out true _ HL5.out HB5.out).mono ?_
          rintro e0 w3 ⟨rfl, h5, h6⟩
          have HL6 := Aside0.mk h5
          have HB6 := Aside0.mk h6
          clear h5 h6
          go_wp2_with fail
          refine (add_any base g _ 19 (p + 3) (bvs o) _ HL6.out (Nat.le_trans hbase HB6.out.size) hl).mono ?_
          rintro e w4 ⟨rfl, h5, h6⟩
          have HL7 := Aside0.mk h5
          have HB7 := Aside0.mk (HB6.out.trans h6)
          clear h5 h6
          go_wp2_with fail
          first | go_end0 | ((try simp only [Exit.inBlock, Exit.then]); refine bodyPost_ret (results_none rfl _ _ _) rfl ?_)
          rw [HF.out]
          exact ⟨rfl, HL7.out, HB7.out⟩
        · subst hu
          go_wp2_with fail
          refine (PFnTokens.spec_plainBlock.calls 800000 o _ _ HPL.out).mono ?_
          rintro e0 w3 ⟨rfl, h6⟩
          have HL3 := Aside0.mk (HL2.out.below h6)
          have HB3 := Aside0.mk (below_then HB2.out (Nat.le_trans hbase HB2.out.size) h6)
          clear h6 c0 c1 c2 c3 c4 fz v
          obtain ⟨v, c0, c1, c2, c3, c4, fz⟩ := HL3.out.cells
          have HL5 := Aside0.mk (show Lx (w3.setCell ⟨g, 4, none⟩ (.bool (!plainB o))) base g { x with unsure := false || !plainB o } from HL3.out.set4 (!plainB o))
          have HB5 := Aside0.mk (HL3.out.bset HB3.out 4 (.bool (!plainB o)))
          go_wp2_with fail
          refine (TL.out true _ HL5.out HB5.out).mono ?_
          rintro e0 w4 ⟨rfl, h5, h6⟩
          have HL6 := Aside0.mk h5
          have HB6 := Aside0.mk h6
          clear h5 h6
          go_wp2_with fail
          refine (add_any base g _ 19 (p + 3) (bvs o) _ HL6.out (Nat.le_trans hbase HB6.out.size) hl).mono ?_
          rintro e w5 ⟨rfl, h5, h6⟩
          have HL7 := Aside0.mk h5
          have HB7 := Aside0.mk (HB6.out.trans h6)
          clear h5 h6
          go_wp2_with fail
          first | go_end0 | ((try simp only [Exit.inBlock, Exit.then]); refine bodyPost_ret (results_none rfl _ _ _) rfl ?_)
          rw [HF.out]
          exact ⟨rfl, HL7.out, HB7.out⟩
      | false =>
        have hr5 := HRUN.out
        rw [if_neg (by simp)] at hr5
        clear HRUN
        have HRUN := Aside0.mk hr5
        clear hr5
        go_wp2_with fail
        refine (PFnTokens.spec_starts.calls x.s p _ b4 _ HQ4.out).mono ?_
        rintro e0 w3 ⟨rfl, hdw⟩
        have HL3 : Aside0 (Lx w3 base g { x with unsure := u }) := by obtain ⟨m9, rfl⟩ := hdw; exact ⟨HL2.out.drewN m9⟩
        have HB3 : Aside0 (Below base w w3) := by obtain ⟨m9, rfl⟩ := hdw; exact ⟨pw_below_drewN HB2.out m9⟩
        clear hdw c0 c1 c2 c3 c4 fz v
        obtain ⟨v, c0, c1, c2, c3, c4, fz⟩ := HL3.out.cells
        cases b4 with
        | true =>
          have hrec : blk x.s k (p + 4) (o ++ ⟨#[34, 34, 34]⟩) true = R := by rw [← HRUN.out, if_pos rfl]
          have HREC := Aside0.mk hrec
          have hcat : o.size + 3 ≤ 9223372036854775807 := by omega
          clear hrec
          have HL5 := Aside0.mk (HL3.out.set4 true)
          have HB5 := Aside0.mk (HL3.out.bset HB3.out 4 (.bool true))
          go_wp2_with fail
          go_roundg k
          case measure => omega
          case rel =>
            refine ⟨p + 4, o ++ ⟨#[34, 34, 34]⟩, true, rfl, rfl, ⟨by omega, by omega, by have := HA.out.2.2.1; omega, by rw [ByteArray.size_append]; have : (⟨#[34, 34, 34]⟩ : ByteArray).size = 3 := rfl; omega, HREC.out, HL5.out, HB5.out⟩⟩
        | false =>
          have hr5 := HRUN.out
          rw [if_neg (by simp)] at hr5
          clear HRUN
          have HRUN := Aside0.mk hr5
          clear hr5
          obtain ⟨hpt, hpn⟩ := HPT.out p (by omega) hlt
          obtain ⟨⟨pc, n⟩, hP⟩ : ∃ P, P = ptS x.s p := ⟨_, rfl⟩
          rw [← hP] at hpt hpn
          have HP := Aside0.mk hP
          have HPTT := Aside0.mk hpt
          have hpn : n = 0 ∨ 1 ≤ n ∧ n ≤ 4 ∧ p + n ≤ (x.s.size : Int) := hpn
          clear hP hpt
          go_wp2_with fail
          refine (spec_Point.calls 12 x.s p pc n _ HPTT.out).mono ?_
          rintro e0 w4 ⟨rfl, ⟨m, rfl⟩⟩
          go_wp2_with fail
          refine (spec_source.calls pc _ _ _ (src_tells pc)).mono ?_
          rintro e0 w4 ⟨rfl, ⟨m2, rfl⟩⟩
          have HX4 := HL3.out.drewN (m + m2)
          have HXX := Aside0.mk HX4
          have HB4 := Aside0.mk (pw_below_drewN HB3.out (m + m2))
          clear c0 c1 c2 c3 c4 fz v
          obtain ⟨v, c0, c1, c2, c3, c4, fz⟩ := HX4.cells
          clear HX4
          by_cases hz : n = 0
          · have hzb : (n == 0) = true := by simp [hz]
            have hfin : R = (none, true) := by rw [← HRUN.out, ← HP.out]; exact if_pos hz
            have HF := Aside0.mk hfin
            clear hfin hz hpn
            rcases Bool.eq_false_or_eq_true u with hu | hu
            all_goals
              rw [hu] at c4
              cases hsr : isSrc pc
              all_goals
                go_wp2_with fail
                refine (fail_any base g { x with unsure := true } _ (by have := HXX.out.set4 true; exact this)).mono ?_
                rintro e0 w5 ⟨rfl, hX3, hB3⟩
                have HX3 := Aside0.mk hX3
                have HB5 := Aside0.mk hB3
                clear hX3 hB3
                go_wp2_with fail
                first | go_end0 | ((try simp only [Exit.inBlock, Exit.then]); refine bodyPost_ret (results_none rfl _ _ _) rfl ?_)
                rw [HF.out]
                exact ⟨rfl, HX3.out, (HXX.out.bset HB4.out 4 _).trans HB5.out⟩
          · have hzb : (n == 0) = false := by simp [hz]
            cases hsr : isSrc pc with
            | false =>
              have hfin : R = (none, u) := by
                rw [← HRUN.out, ← HP.out]
                show (if n = 0 then _ else if isSrc pc = false then _ else _) = _
                rw [if_neg hz, if_pos hsr]
              have HF := Aside0.mk hfin
              clear hfin hz hpn
              rcases Bool.eq_false_or_eq_true u with hu | hu
              all_goals
                subst hu
                go_wp2_with fail
              · refine (fail_any base g { x with unsure := true } _ (by have := HXX.out.set4 true; exact this)).mono ?_
                rintro e0 w5 ⟨rfl, hX3, hB3⟩
                have HX3 := Aside0.mk hX3
                have HB5 := Aside0.mk hB3
                clear hX3 hB3
                go_wp2_with fail
                first | go_end0 | ((try simp only [Exit.inBlock, Exit.then]); refine bodyPost_ret (results_none rfl _ _ _) rfl ?_)
                rw [HF.out]
                exact ⟨rfl, HX3.out, (HXX.out.bset HB4.out 4 _).trans HB5.out⟩
              · refine (fail_any base g { x with unsure := false } _ (by have := HXX.out.set4 false; exact this)).mono ?_
                rintro e0 w5 ⟨rfl, hX3, hB3⟩
                have HX3 := Aside0.mk hX3
                have HB5 := Aside0.mk hB3
                clear hX3 hB3
                go_wp2_with fail
                first | go_end0 | ((try simp only [Exit.inBlock, Exit.then]); refine bodyPost_ret (results_none rfl _ _ _) rfl ?_)
                rw [HF.out]
                exact ⟨rfl, HX3.out, (HXX.out.bset HB4.out 4 _).trans HB5.out⟩
            | true =>
              have hn1 : 1 ≤ n := by omega
              have hn4 : n ≤ 4 := by omega
              have hn5 : p + n ≤ (x.s.size : Int) := by omega
              obtain ⟨q, hq⟩ : ∃ q, q = x.s.extract p.toNat (p + n).toNat := ⟨_, rfl⟩
              have hqs : (q.size : Int) = n := by rw [hq, ByteArray.size_extract]; omega
              have ks := fun W => slice_str x.s p (p + n) (by omega) (by omega) hn5 W
              rw [← hq] at ks
              have hcat : o.size + q.size ≤ 9223372036854775807 := by omega
              have hrec : blk x.s k (p + n) (o ++ q) (u || decide (65535 < pc)) = R := by
                rw [← HRUN.out, ← HP.out, hq]
                show _ = (if n = 0 then _ else if isSrc pc = false then _ else _)
                rw [if_neg hz, if_neg (by simp [hsr])]
              have HREC := Aside0.mk hrec
              clear hrec hz hpn hq
              rcases Bool.eq_false_or_eq_true u with hu | hu
              all_goals
                subst hu
                go_wp2_with fail
                go_roundg k
                case measure => omega
                case rel =>
                  refine ⟨p + n, o ++ q, _, rfl, rfl, ⟨by omega, by omega, by have := HA.out.2.2.1; omega, by rw [ByteArray.size_append]; push_cast; omega, HREC.out, ?_, HXX.out.bset HB4.out 4 _⟩⟩
                  have hnot : (!decide (pc ≤ 65535)) = decide (65535 < pc) := by by_cases h : pc ≤ 65535 <;> simp [h] <;> omega
                  first
                  | exact HXX.out.set4 true
                  | (rw [hnot]; exact HXX.out.set4 (decide (65535 < pc)))
    · have hltb : decide (p < (x.s.size : Int)) = false := decide_eq_false hlt
      have hfin : R = (none, u) := by
        rw [← HA.out.2.2.2.2.1]
        cases gk with
        | zero => rfl
        | succ k => rw [blk, if_pos (by omega)]
      have HF := Aside0.mk hfin
      clear hfin
      go_wp2_with fail
      refine (fail_any base g { x with unsure := u } _ HL.out).mono ?_
      rintro e w2 ⟨rfl, hX2, hB2⟩
      have HX2 := Aside0.mk hX2
      have HB2 := Aside0.mk hB2
      clear hX2 hB2
      go_wp2_with fail
      first | go_end0 | ((try simp only [Exit.inBlock, Exit.then]); refine bodyPost_ret (results_none rfl _ _ _) rfl ?_)
      rw [HF.out]
      exact ⟨rfl, HX2.out, HBB.out.trans HB2.out⟩
end Go.Proofs.YtbobbognjmofdaaGreatDoor.Lex
end
