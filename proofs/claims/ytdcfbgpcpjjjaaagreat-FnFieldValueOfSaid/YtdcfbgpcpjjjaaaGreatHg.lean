/-
  spec.SameValue, walked: two values that are the same.
-/
import Derived.Test.YtdcfbgpcpjjjaaaGreatHf
namespace Go.Proofs.YtdcfbgpcpjjjaaaGreat.Co
open Go.RowKit Go.Proofs.YtdcfbgpcpjjjaaaGreatW.PrintWords Go.Proofs.YtdcfbgpcpjjjaaaGreatW.PrintLast Go.Proofs.YtdcfbgpcpjjjaaaGreatW.PrintMore
open Go.Proofs.YtdcfbgpcpjjjaaaGreat.Fl Go.Proofs.YtdcfbgpcpjjjaaaGreat.Dr Go.Proofs.YtdcfbgpcpjjjaaaGreat.PFnFieldValueOf
set_option linter.unusedVariables false
set_option linter.unusedSimpArgs false
attribute [local go_sem] run_store_float
theorem eqf (x y : Nat) (w : World) : (Op.equalIn 9999 25 (.float .f64 x) (.float .f64 y)).run Tryz.prog w = .ok (Op.floatEq .f64 x y) w := by kernel_rfl
/-- The loop of SameValue. -/
def SvRel (w w2 : World) (n : Nat) (v7 : Value) (wr : World) : Prop := ∃ i : Nat, i ≤ n ∧ v7 = .int .i64 i ∧ Below w.heap.size w wr ∧ wr.heap = w2.heap
theorem C_heap {w w' : World} {A : Option Addr} {L : List V4} (h : Kd.C k27 w A L.length L) (hh : w'.heap = w.heap) : Kd.C k27 w' A L.length L := C_frame h fun ad _ => by rw [hh]
set_option maxHeartbeats 4000000 in
set_option maxRecDepth 100000 in
theorem same10_any (t t' : Tr) (hc : Canon t t') (ht : TR false t) (v v' : Value) (w : World) (hv : IsL w v (nodes t)) (hv' : IsL w v' (nodes t')) (hl : (nodes t).length ≤ 1000) :
    Calls Tryz.prog 10 #[v', v] w fun e w' => e = .returned (.bool true) ∧ Below w.heap.size w w' := by
  have hlen := canon_len hc
  have HS' := Aside0.mk (sort18_any t' v' w hv'.sliceN (by omega))
  have HS := Aside0.mk (fun w1 (hb : Below w.heap.size w w1) => sort18_any t v w1 (hv.sliceN.frame fun k hk => ⟨Nat.lt_of_lt_of_le hk hb.size, hb.block k hk⟩) hl)
  have HSAME := Aside0.mk (fun g g' => same_nodes hc g g' ht)
  obtain ⟨A', c', rfl, -, -⟩ := hv'
  obtain ⟨A, c, rfl, -, -⟩ := hv
  have hpos := nodes_pos t
  rw [hlen] at *
  obtain ⟨n, hn⟩ : ∃ n, n = (nodes t).length := ⟨_, rfl⟩
  rw [← hn] at HS HS' hpos hl ⊢
  have HN := Aside0.mk hn
  have hne : ((n : Int) == 0) = false := by rw [beq_eq_false_iff_ne]; omega
  clear hn hlen
  go_enter Tryz.func10, Tryz.ntmps10
  go_wp2_with fail
  refine HS'.out.mono ?_
  rintro e w1 ⟨r', g', rfl, hg', hr', hb1⟩
  have HG' := Aside0.mk hg'
  have HR' := Aside0.mk hr'
  have HB1 := Aside0.mk hb1
  clear hg' hr' hb1
  go_wp2_with fail
  refine (HS.out w1 HB1.out).mono ?_
  rintro e w2 ⟨r, g, rfl, hg, hr, hb2⟩
  have hall := HSAME.out g g' hg HG'.out
  have hr2 := HR'.out.frame (w' := w2) (S' := fun _ => True) fun k hk => ⟨trivial, hb2.block k hk.2⟩
  have hgl : (nodes g).length = n := by rw [hg.len, HN.out]
  have hgl' : (nodes g').length = n := by rw [hall.length, hgl]
  have HALL := Aside0.mk hall
  obtain ⟨A1, c1, rfl, hc1, hC1, -⟩ := hr2
  obtain ⟨A2, c2, rfl, hc2, hC2, -⟩ := hr
  have HC1 := Aside0.mk hC1
  have HC2 := Aside0.mk hC2
  rw [hgl] at hc2 ⊢
  rw [hgl'] at hc1 ⊢
  have HGL := Aside0.mk hgl
  have HGL' := Aside0.mk hgl'
  have HI : Aside0 (SvRel w w2 n (.int .i64 0) w2) := ⟨⟨0, Nat.zero_le _, rfl, below_step HB1.out hb2, rfl⟩⟩
  clear hC1 hC2 hall hg hb2 hgl hgl' HR' HG' HS HS' HSAME
  go_wp2_with fail
  go_loopw [7] (fun v7 wr => SvRel w w2 n v7 wr) (fun v7 _ => n - (intOf v7).toNat)
  case atStart => exact HI.out
  case round =>
    obtain ⟨i, hi, rfl, hb, hh⟩ := hrel
    have HB := Aside0.mk hb
    have HH := Aside0.mk hh
    by_cases hlt : i < n
    · have hki : (i : Int) < (n : Int) := by omega
      have hw1 : IntKind.i64.wrap ((i : Int) + 1) = ((i + 1 : Nat) : Int) := by rw [i64_w, w64 (by omega) (by omega)]; omega
      have hi1 : i < (nodes g').length := by rw [HGL'.out]; exact hlt
      have hi2 : i < (nodes g).length := by rw [HGL.out]; exact hlt
      obtain ⟨ad1, rfl, ⟨p0, p1, p2, p3, -⟩, -⟩ := atN (C_heap HC1.out hh) (List.drop_eq_getElem_cons hi1)
      obtain ⟨ad2, rfl, ⟨q0, q1, q2, q3, -⟩, -⟩ := atN (C_heap HC2.out hh) (List.drop_eq_getElem_cons hi2)
      obtain ⟨s1, s2, s3, s4⟩ := HALL.out.get i _ _ (List.getElem?_eq_getElem hi1) (List.getElem?_eq_getElem hi2)
      generalize (nodes g')[i] = x at *
      generalize (nodes g)[i] = y at *
      obtain ⟨xk, xn, xt, xs⟩ := x
      obtain ⟨yk, yn, yt, ys⟩ := y
      dsimp only at s1 s2 s3 s4 p0 p1 p2 p3 q0 q1 q2 q3
      subst s1; subst s3; subst s4
      have hq : ∀ W : World, (Op.equalIn 9999 25 (.float .f64 xn) (.float .f64 yn)).run Tryz.prog W = .ok true W := fun W => by
        rw [eqf]
        show Result.ok (D.order xn yn == some .eq) W = _
        rw [s2]; rfl
      clear hb hh s2 hi1 hi2
      go_wp2_with fail
      go_region
      go_wp2_with fail
      exact ⟨⟨i + 1, hlt, congrArg (Value.int .i64) (by omega), below_drew HB.out, HH.out⟩, by simp [intOf]; omega⟩
    · obtain rfl : i = n := by omega
      have hki : ¬ ((i : Int) < (i : Int)) := by omega
      clear hb hh
      go_wp2_with fail
      go_ret
      exact ⟨rfl, HB.out⟩
end Go.Proofs.YtdcfbgpcpjjjaaaGreat.Co
