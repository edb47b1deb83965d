/-
  FnTokens: the law itself, walked.
-/
import Derived.Test.YtbobbognjmofdaaGreatDoorTkA
import Derived.Test.YtbobbognjmofdaaGreatDoorTkC
namespace Go.Proofs.YtbobbognjmofdaaGreatDoor.Lex
open Go.RowKit Go.Proofs.YtbobbognjmofdaaGreatDoorW.PrintWords Go.Proofs.YtbobbognjmofdaaGreatDoorW.PrintLast Go.Proofs.YtbobbognjmofdaaGreatDoorW.PrintMore
open Go.Proofs.YtbobbognjmofdaaGreatDoor.Ptext
set_option linter.unusedVariables false
set_option linter.unusedSimpArgs false
set_option maxHeartbeats 4000000 in
theorem lawTokens_any (s : ByteArray) (w : World) (hT : Lib.Utf8Tabs 1 2 w) :
    Calls Tryz.prog 5 #[.string s] w fun e w' => e = .returned (.bool true) ∧ Below w.heap.size w w' := by
  have HT := Aside0.mk hT
  clear hT
  by_cases hs : s.size ≤ 2000
  · have b1 : decide ((s.size : Int) > 2147483647) = false := decide_eq_false (by omega)
    have b2 : decide ((s.size : Int) > 2000) = false := decide_eq_false (by omega)
    obtain ⟨b8, hb8⟩ := PFnReadString.utf8_tells s (by omega)
    have HB8 := Aside0.mk (hb8 100100 (Nat.le_refl _))
    clear hb8
    go_enter Tryz.func5, Tryz.ntmps5
    go_wp2_with fail
    refine (PFnReadString.spec_UTF8.calls 100100 s b8 _ HB8.out).mono ?_
    rintro e w1 ⟨rfl, ⟨m, rfl⟩⟩
    have HB := Aside0.mk (pw_below_drewN (Below.refl w.heap.size w) m)
    cases b8 with
    | false =>
      go_wp2_with fail
      go_ret
      exact ⟨rfl, HB.out⟩
    | true =>
    obtain ⟨⟨l, b, u⟩, hR⟩ : ∃ R, R = lexR s := ⟨_, rfl⟩
    have HR := Aside0.mk hR
    have HX := Aside0.mk (specLex_any s (w.drewN m) hs l b u hR.symm)
    clear hR
    go_wp2_with fail
    refine HX.out.mono ?_
    rintro e w2 ⟨⟨v, rfl, hRR⟩, hb2⟩
    have HRR := Aside0.mk hRR
    have HB2 := Aside0.mk (HB.out.trans hb2)
    clear hRR hb2
    cases u with
    | true =>
      go_wp2_with fail
      go_ret
      exact ⟨rfl, HB2.out⟩
    | false =>
    have HI := Aside0.mk (implTokens_any s l b w2 hs (tabs_below HT.out HB2.out) HR.out.symm)
    go_wp2_with fail
    refine HI.out.mono ?_
    rintro e w3 ⟨⟨v2, rfl, hR3⟩, hb3⟩
    have HR2 := Aside0.mk (Kd.R_below HRR.out hb3)
    have HR3 := Aside0.mk hR3
    have HB3 := Aside0.mk (HB2.out.trans (hb3.mono HB2.out.size))
    clear hR3 hb3
    cases b with
    | true =>
      go_wp2_with fail
      go_ret
      exact ⟨rfl, HB3.out⟩
    | false =>
    have hr2 : Kd.R k24 24 w3 w.heap.size (fun _ => True) v l := HR2.out
    have hr3 : Kd.R k24 24 w3 w2.heap.size (fun _ => True) v2 l := HR3.out
    obtain ⟨A1, c1, rfl, hc1, hC1⟩ := Kd.R_reads hr2
    obtain ⟨A2, c2, rfl, hc2, hC2⟩ := Kd.R_reads hr3
    have hlen : l.length ≤ 3000 := by
      have := lexd_length s (fun p h1 h2 => (pt_tells s (by omega) p h1 h2).2) (s.size + 1) 0 false [] (by omega) (by omega) (by simp)
      rw [show lexd s (s.size + 1) 0 false [] = lexR s from rfl, ← HR.out] at this
      have h : (l.length : Int) ≤ s.size := this
      omega
    have HSA := Aside0.mk (fun W b => same9_any l A2 A1 c2 c1 b W)
    have HC1 := Aside0.mk hC1
    have HC2 := Aside0.mk hC2
    clear hr2 hr3 hC1 hC2 hc1 hc2
    go_wp2_with fail
    refine (ascii9_any s w3 hs).mono ?_
    rintro e w4 ⟨⟨ba, rfl⟩, rfl⟩
    have HZ := Aside0.mk (HSA.out w3 ba HC2.out HC1.out hlen)
    go_wp2_with fail
    refine HZ.out.mono ?_
    rintro e w5 ⟨rfl, ⟨m5, rfl⟩⟩
    go_wp2_with fail
    go_ret
    exact ⟨rfl, pw_below_drewN HB3.out _⟩
  · go_enter Tryz.func5, Tryz.ntmps5
    go_wp2_with fail
    all_goals
      go_ret
      exact ⟨rfl, Below.refl _ _⟩
end Go.Proofs.YtbobbognjmofdaaGreatDoor.Lex
