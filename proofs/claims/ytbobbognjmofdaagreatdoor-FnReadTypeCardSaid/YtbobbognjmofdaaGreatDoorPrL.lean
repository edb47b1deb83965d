/-
  FnReadType: the law's comparison, and the law itself, walked.
-/
import Derived.Test.YtbobbognjmofdaaGreatDoorPrX
namespace Go.Proofs.YtbobbognjmofdaaGreatDoor.Lex
open Go.RowKit Go.Proofs.YtbobbognjmofdaaGreatDoorW.PrintWords Go.Proofs.YtbobbognjmofdaaGreatDoorW.PrintLast Go.Proofs.YtbobbognjmofdaaGreatDoorW.PrintMore
open Go.Proofs.YtbobbognjmofdaaGreatDoor.Ptext
set_option linter.unusedVariables false
set_option linter.unusedSimpArgs false
/-- What both say where the reference is sure: either both refuse, or both read the same nodes to the same place. -/
theorem both_say {s : ByteArray} {l : List S24} {b sure : Bool} {R : List S50 × PS} {B1 B2 : Nat} {e1 e2 : Ending} {w1 w2 : World} (h1 : SpecR l b R sure B1 e1 w1) (h2 : ImplR s l b R B2 e2 w2) :
    (e1 = .returned (.tuple #[.slice none 0 0, .int .i64 0, .bool false, .bool sure]) ∧ e2 = .returned (.tuple #[.slice none 0 0, .int .i64 0, .bool false])) ∨
    (∃ (v1 v2 : Value) (n m : Int), e1 = .returned (.tuple #[v1, .int .i64 n, .bool true, .bool sure]) ∧ e2 = .returned (.tuple #[v2, .int .i64 m, .bool true]) ∧ (n < 0 ∨ m = n) ∧ k50.R 50 w1 B1 (fun _ => True) v1 R.1 ∧ k50.R 50 w2 B2 (fun _ => True) v2 R.1) := by
  rcases h1 with ⟨hr, rfl⟩ | ⟨hb, ha, hbad, v, rfl, hv⟩ | ⟨hb, ha, v, rfl, hv⟩
  · rcases h2 with ⟨-, rfl⟩ | ⟨hb, j, t, v2, ha, hat, rfl, hv2⟩
    · exact .inl ⟨rfl, rfl⟩
    · exfalso
      rcases hr with hr | ⟨hr, hl⟩
      · rw [hb] at hr; cases hr
      · rcases hat with ⟨h, -⟩ | ⟨-, h, -⟩
        · have := (List.getElem?_eq_some_iff.1 h).1; omega
        · rw [hr] at h; cases h
  · rcases h2 with ⟨hr, -⟩ | ⟨-, j, t, v2, ha2, hat, rfl, hv2⟩
    · exfalso
      rcases hr with hr | ⟨hr, -⟩
      · rw [hb] at hr; cases hr
      · rw [hbad] at hr; cases hr
    · exact .inr ⟨v, v2, -1, t.f2, rfl, rfl, .inl (by decide), hv, hv2⟩
  · rcases h2 with ⟨hr, -⟩ | ⟨-, j, t, v2, ha2, hat, rfl, hv2⟩
    · exfalso
      rcases hr with hr | ⟨-, hr⟩
      · rw [hb] at hr; cases hr
      · omega
    · refine .inr ⟨v, v2, _, t.f2, rfl, rfl, .inr ?_, hv, hv2⟩
      rw [ha2, hat.rd (by omega)]
theorem sure_or {l : List S24} {b sure : Bool} {R : List S50 × PS} {B1 : Nat} {e1 : Ending} {w1 : World} (h1 : SpecR l b R sure B1 e1 w1) : ∃ (v1 : Value) (n : Int) (ok : Bool), e1 = .returned (.tuple #[v1, .int .i64 n, .bool ok, .bool sure]) := by
  rcases h1 with ⟨hr, rfl⟩ | ⟨hb, ha, hbad, v, rfl, hv⟩ | ⟨hb, ha, v, rfl, hv⟩
  · exact ⟨_, _, _, rfl⟩
  · exact ⟨_, _, _, rfl⟩
  · exact ⟨_, _, _, rfl⟩
set_option maxRecDepth 4000 in
set_option maxHeartbeats 4000000 in
theorem read9_any (s : ByteArray) (w : World) (hT : Lib.Utf8Tabs 1 2 w) :
    Calls Tryz.prog 21 #[.string s, .int .i64 0, .func (.func 22) #[] #[]] w fun e w' => e = .returned (.bool true) ∧ Below w.heap.size w w' := by
  have HT := Aside0.mk hT
  clear hT
  obtain ⟨bb, hbb, hb2⟩ := PFnReadString.short_tells s
  have HBB := Aside0.mk hbb
  have HB2 := Aside0.mk hb2
  clear hbb hb2
  go_enter Tryz.func21, Tryz.ntmps21
  go_wp2_with fail
  refine (PFnReadString.laws_short9.calls 100100 s bb _ HBB.out).mono ?_
  rintro e w1 ⟨rfl, ⟨m, rfl⟩⟩
  have HB1 := Aside0.mk (pw_below_drewN (Below.refl w.heap.size w) m)
  cases bb with
  | false =>
    go_wp2_with fail
    go_ret
    exact ⟨rfl, HB1.out⟩
  | true =>
  have hs : s.size ≤ 2000 := HB2.out rfl
  obtain ⟨⟨l, b, u⟩, hR⟩ : ∃ R, R = lexR s := ⟨_, rfl⟩
  have hsp := specRead_any s (w.drewN m) hs l b u hR.symm
  have hok : PS.ok l ps0 := ⟨Int.le_refl _, by have := lexR_length hs hR.symm; show (0 : Int) ≤ _; omega, by have := lexR_length hs hR.symm; omega⟩
  have hmany := (typd_keeps l 62 ps0 hok).2.2.2
  have HIM : Aside0 (∀ W, Lib.Utf8Tabs 1 2 W → u = false → (typd 62 l ps0).2.unsure = false → Calls Tryz.prog 22 #[.string s] W fun e w' => ImplR s l b (typd 62 l ps0) W.heap.size e w' ∧ Below W.heap.size W w') :=
    ⟨fun W hW hu hu2 => implReadType_any s l b W hW hs (by rw [← hR, hu]) hu2⟩
  have hsp : Calls Tryz.prog 42 #[.string s, .int .i64 0] (w.drewN m) fun e w' => SpecR l b (typd 62 l ps0) (!u && !(typd 62 l ps0).2.unsure) (w.drewN m).heap.size e w' ∧ Below (w.drewN m).heap.size (w.drewN m) w' := hsp
  obtain ⟨R, hRR⟩ : ∃ R, R = typd 62 l ps0 := ⟨_, rfl⟩
  rw [← hRR] at hsp hmany HIM
  obtain ⟨sure, hsu⟩ : ∃ x, x = (!u && !R.2.unsure) := ⟨_, rfl⟩
  rw [← hsu] at hsp
  have HSP := Aside0.mk hsp
  have HSU := Aside0.mk hsu
  have HMANY := Aside0.mk hmany
  clear hsp hsu hmany hok hR hRR
  go_wp2_with fail
  refine HSP.out.mono ?_
  rintro e w2 ⟨h1, hb2⟩
  have HBB2 := Aside0.mk (HB1.out.trans (hb2.mono HB1.out.size))
  have H1 := Aside0.mk h1
  clear hb2
  cases sure with
  | false =>
    obtain ⟨v1, n, ok, rfl⟩ := sure_or h1
    clear h1
    go_wp2_with fail
    go_ret
    exact ⟨rfl, HBB2.out⟩
  | true =>
  have hu2 : u = false ∧ R.2.unsure = false := by have := HSU.out; revert this; cases u <;> cases R.2.unsure <;> simp
  have HIM2 := Aside0.mk (HIM.out w2 (tabs_below HT.out HBB2.out) hu2.1 hu2.2)
  obtain ⟨v1, n, ok, he⟩ := sure_or h1
  subst he
  clear h1 hu2 HIM HSU
  go_wp2_with fail
  refine HIM2.out.mono ?_
  rintro e w3 ⟨h2, hb3⟩
  have HBB3 := Aside0.mk (HBB2.out.trans (hb3.mono HBB2.out.size))
  have HKB := Aside0.mk hb3
  clear hb3
  rcases both_say H1.out h2 with ⟨h1, rfl⟩ | ⟨v1', v2, n', m', h1, rfl, hnm, r1, r2⟩
  · injection h1 with h1
    injection h1 with h1
    obtain ⟨rfl, rfl, rfl⟩ : v1 = .slice none 0 0 ∧ n = 0 ∧ ok = false := by simpa using h1
    clear h1 h2 H1
    go_wp2_with fail
    go_ret
    exact ⟨rfl, HBB3.out⟩
  · injection h1 with h1
    injection h1 with h1
    obtain ⟨rfl, rfl, rfl⟩ : v1 = v1' ∧ n = n' ∧ ok = true := by simpa using h1
    clear h1 h2 H1
    obtain ⟨A1, c1, rfl, -, C1⟩ := Kd.R_reads (Kd.R_below r1 HKB.out)
    obtain ⟨A2, c2, rfl, -, C2⟩ := Kd.R_reads r2
    have HSD := Aside0.mk (sameDoc_any R.1 A2 A1 c2 c1 w3 C2 C1 (by have := HMANY.out; omega))
    clear r1 r2 C1 C2
    by_cases hn : n < 0
    · have hnb : decide (n < 0) = true := decide_eq_true hn
      clear hnm
      go_wp2_with fail
      refine HSD.out.mono ?_
      rintro e w4 ⟨rfl, hb4⟩
      have HB4 := Aside0.mk (HBB3.out.trans (hb4.mono HBB3.out.size))
      clear hb4
      go_wp2_with fail
      go_ret
      exact ⟨rfl, HB4.out⟩
    · have hnb : decide (n < 0) = false := decide_eq_false hn
      obtain rfl : m' = n := by rcases hnm with h | h; exact absurd h hn; exact h
      go_wp2_with fail
      refine HSD.out.mono ?_
      rintro e w4 ⟨rfl, hb4⟩
      have HB4 := Aside0.mk (HBB3.out.trans (hb4.mono HBB3.out.size))
      clear hb4
      go_wp2_with fail
      go_ret
      exact ⟨rfl, HB4.out⟩
set_option maxHeartbeats 1000000 in
theorem lawReadType_any (s : ByteArray) (w : World) (hT : Lib.Utf8Tabs 1 2 w) :
    Calls Tryz.prog 6 #[.string s] w fun e w' => e = .returned (.bool true) ∧ Below w.heap.size w w' := by
  have HL := Aside0.mk (read9_any s w hT)
  clear hT
  by_cases hs : (s.size : Int) ≤ 2147483647
  · have b1 : decide ((s.size : Int) > 2147483647) = false := decide_eq_false (by omega)
    go_enter Tryz.func6, Tryz.ntmps6
    go_wp2_with fail
    refine HL.out.mono ?_
    rintro e w1 ⟨rfl, hb⟩
    have HB := Aside0.mk hb
    clear hb
    go_wp2_with fail
    go_ret
    exact ⟨rfl, HB.out⟩
  · have b1 : decide ((s.size : Int) > 2147483647) = true := decide_eq_true (by omega)
    go_enter Tryz.func6, Tryz.ntmps6
    go_wp2_with fail
    go_ret
    exact ⟨rfl, Below.refl _ _⟩
end Go.Proofs.YtbobbognjmofdaaGreatDoor.Lex
