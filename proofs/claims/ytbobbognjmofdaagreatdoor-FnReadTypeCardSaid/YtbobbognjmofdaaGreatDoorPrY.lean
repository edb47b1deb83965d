/-
  The reference's Read at a type, walked.
-/
import Derived.Test.YtbobbognjmofdaaGreatDoorPrV
import Derived.Test.YtbobbognjmofdaaGreatDoorPrC
namespace Go.Proofs.YtbobbognjmofdaaGreatDoor.Lex
open Go.RowKit Go.Proofs.YtbobbognjmofdaaGreatDoorW.PrintWords Go.Proofs.YtbobbognjmofdaaGreatDoorW.PrintLast Go.Proofs.YtbobbognjmofdaaGreatDoorW.PrintMore
open Go.Proofs.YtbobbognjmofdaaGreatDoor.Ptext
set_option linter.unusedVariables false
set_option linter.unusedSimpArgs false
/-- What the reference says of what stands at the beginning of a text. -/
def SpecR (l : List S24) (b : Bool) (R : List S50 × PS) (sure : Bool) (base : Nat) (e : Ending) (w' : World) : Prop :=
  (Refd l b R.2 ∧ e = .returned (.tuple #[.slice none 0 0, .int .i64 0, .bool false, .bool sure])) ∨
  (R.2.bad = false ∧ R.2.at_ = l.length ∧ b = false ∧ ∃ v, e = .returned (.tuple #[v, .int .i64 (-1), .bool true, .bool sure]) ∧ k50.R 50 w' base (fun _ => True) v R.1) ∨
  (R.2.bad = false ∧ R.2.at_ < l.length ∧ ∃ v, e = .returned (.tuple #[v, .int .i64 (rd_T24 l R.2.at_).f2, .bool true, .bool sure]) ∧ k50.R 50 w' base (fun _ => True) v R.1)
theorem lexR_length {s : ByteArray} (hs : s.size ≤ 2000) {l : List S24} {b u : Bool} (hR : lexR s = (l, b, u)) : l.length ≤ 2000 := by
  have := lexd_length s (fun p h1 h2 => (pt_tells s (by omega) p h1 h2).2) (s.size + 1) 0 false [] (by omega) (by omega) (by simp)
  rw [show lexd s (s.size + 1) 0 false [] = lexR s from rfl, hR] at this
  have h : (l.length : Int) ≤ s.size := this
  omega
set_option maxRecDepth 8000 in
set_option maxHeartbeats 8000000 in
theorem specRead_any (s : ByteArray) (w : World) (hs : s.size ≤ 2000) (l : List S24) (b u : Bool) (hR : lexR s = (l, b, u)) :
    Calls Tryz.prog 42 #[.string s, .int .i64 0] w fun e w' => SpecR l b (typd 62 l ⟨0, 0, 0, false, false⟩) (!u && !(typd 62 l ⟨0, 0, 0, false, false⟩).2.unsure) w.heap.size e w' ∧ Below w.heap.size w w' := by
  have hL := specLexed_any s w hs
  rw [hR] at hL
  have HL := Aside0.mk hL
  have hll := lexR_length hs hR
  have hok : PS.ok l ⟨0, 0, 0, false, false⟩ := ⟨Int.le_refl _, by show (0 : Int) ≤ _; omega, by omega⟩
  obtain ⟨R, hRR⟩ : ∃ R, R = typd 62 l ⟨0, 0, 0, false, false⟩ := ⟨_, rfl⟩
  obtain ⟨k1, k2, k3, k4⟩ := typd_keeps l 62 _ hok
  rw [← hRR] at k1 k2 k3 k4 ⊢
  have HRR := Aside0.mk hRR
  have HOK := Aside0.mk hok
  clear hL hR hRR hok k2 k3
  go_enter Tryz.func42, Tryz.ntmps42
  go_wp2_with fail
  refine HL.out.mono ?_
  rintro e w1 ⟨⟨v, rfl, hr⟩, hb⟩
  have hr : k24.R 24 w1 w.heap.size (fun _ => True) v l := hr
  obtain ⟨A, c, rfl, hc, -⟩ := Kd.R_reads hr
  have HR1 := Aside0.mk hr
  have HB1 := Aside0.mk hb
  clear hr hb hc
  go_wp2_with fail
  obtain ⟨W2, hW2⟩ : ∃ W2, W2 = w1.alloc (.cells #[.slice A l.length c, .int .i64 0, .int .i64 0, .int .i64 0, .bool false, .bool false] 91) := ⟨_, rfl⟩
  have hB2 : Below w1.heap.size w1 W2 := by rw [hW2]; exact below_alloc (Below.refl _ _) _
  have hE2 : W2.heap[w1.heap.size]? = some (.cells #[.slice A l.length c, .int .i64 0, .int .i64 0, .int .i64 0, .bool false, .bool false] 91 (0, 0)) := by rw [hW2]; exact blk_new _ _
  rw [← hW2]
  clear hW2
  have HB2 := Aside0.mk (HB1.out.trans (hB2.mono HB1.out.size))
  have HR2 := Aside0.mk (Kd.R_below HR1.out hB2)
  have HE2 := Aside0.mk hE2
  have hPx : Px W2 w.heap.size w1.heap.size l ⟨0, 0, 0, false, false⟩ := ⟨_, hE2, HB1.out.size, HR2.out⟩
  have hty := typed_any w.heap.size w1.heap.size l 62 ⟨0, 0, 0, false, false⟩ W2 hPx HOK.out (by decide) (by decide) (by decide) HB2.out.size (by omega)
  rw [← HRR.out] at hty
  have HTY := Aside0.mk hty
  clear hB2 hE2 hPx hty
  refine HTY.out.mono ?_
  rintro e w3 ⟨⟨vd, rfl, hd⟩, hX3, hG3⟩
  obtain ⟨A2, cc2, hcc2, hCC2, c0, c1, c2, c3, c4, c5, fz⟩ := hX3.cells
  have HD := Aside0.mk hd
  have HB3 : Aside0 (Below w.heap.size w w3) := ⟨HB2.out.trans (grw_base hG3 HB1.out.size HB2.out.size)⟩
  have hr3 := R_grw HR2.out HE2.out k24_E91 hG3
  obtain ⟨A3, c3', he3, -, hC3⟩ := Kd.R_reads hr3
  obtain ⟨rfl, rfl⟩ : A = A3 ∧ c = c3' := by injection he3 with h1 h2 h3; exact ⟨h1, h3⟩
  have HC3 := Aside0.mk hC3
  obtain ⟨o, ra, rd, rw, rb, ru⟩ := R
  have ka0 : 0 ≤ ra := k1.a0
  have ka1 : ra ≤ l.length := k1.a1
  dsimp only at c0 c1 c2 c3 c4 c5 k4
  clear hX3 hG3 hd hr3 he3 hC3 hCC2 hcc2 c0 c2 c3 k1 k4
  cases rb with
  | true =>
    cases u <;> cases ru <;>
      (go_wp2_with fail
       exact bodyPost_ret (v := .tuple #[.slice none 0 0, .int .i64 0, .bool false, .bool _]) (by simp [results, Tryz.results42, go_sem]) rfl ⟨.inl ⟨.inl rfl, rfl⟩, HB3.out⟩)
  | false =>
    by_cases hat : ra < (l.length : Int)
    · have hatb : decide (ra ≥ (l.length : Int)) = false := decide_eq_false (by omega)
      obtain ⟨ad, rfl, p0, p1, p2, p3⟩ := at_T24 HC3.out ra ka0 hat
      obtain ⟨t, ht⟩ : ∃ t, t = rd_T24 l ra := ⟨_, rfl⟩
      rw [← ht] at p0 p1 p2 p3
      have HTT := Aside0.mk ht
      have hin : ra.toNat < l.length := by omega
      clear ht p0 p1 p3
      cases u with
      | false =>
        cases ru with
        | false =>
          go_wp2_with fail
          go_region
          go_wp2_with fail
          exact bodyPost_ret (v := .tuple #[vd, .int .i64 t.f2, .bool true, .bool true]) (by simp [results, Tryz.results42, go_sem]) rfl ⟨.inr (.inr ⟨rfl, hat, vd, by rw [← HTT.out], Kd.R_below HD.out (pw_below_drewN (Below.refl _ _) 1)⟩), pw_below_drewN HB3.out 1⟩
        | true =>
          go_wp2_with fail
          go_region
          go_wp2_with fail
          exact bodyPost_ret (v := .tuple #[vd, .int .i64 t.f2, .bool true, .bool false]) (by simp [results, Tryz.results42, go_sem]) rfl ⟨.inr (.inr ⟨rfl, hat, vd, by rw [← HTT.out], Kd.R_below HD.out (pw_below_drewN (Below.refl _ _) 1)⟩), pw_below_drewN HB3.out 1⟩
      | true =>
        cases ru with
        | false =>
          go_wp2_with fail
          go_region
          go_wp2_with fail
          exact bodyPost_ret (v := .tuple #[vd, .int .i64 t.f2, .bool true, .bool false]) (by simp [results, Tryz.results42, go_sem]) rfl ⟨.inr (.inr ⟨rfl, hat, vd, by rw [← HTT.out], Kd.R_below HD.out (pw_below_drewN (Below.refl _ _) 1)⟩), pw_below_drewN HB3.out 1⟩
        | true =>
          go_wp2_with fail
          go_region
          go_wp2_with fail
          exact bodyPost_ret (v := .tuple #[vd, .int .i64 t.f2, .bool true, .bool false]) (by simp [results, Tryz.results42, go_sem]) rfl ⟨.inr (.inr ⟨rfl, hat, vd, by rw [← HTT.out], Kd.R_below HD.out (pw_below_drewN (Below.refl _ _) 1)⟩), pw_below_drewN HB3.out 1⟩
    · have hatb : decide (ra ≥ (l.length : Int)) = true := decide_eq_true (by omega)
      have hae : ra = l.length := by omega
      have HAE := Aside0.mk hae
      clear hae
      cases b with
      | true =>
        cases u <;> cases ru <;>
          (go_wp2_with fail
           exact bodyPost_ret (v := .tuple #[.slice none 0 0, .int .i64 0, .bool false, .bool _]) (by simp [results, Tryz.results42, go_sem]) rfl ⟨.inl ⟨.inr ⟨rfl, HAE.out⟩, rfl⟩, HB3.out⟩)
      | false =>
        cases u <;> cases ru <;>
          (go_wp2_with fail
           exact bodyPost_ret (v := .tuple #[vd, .int .i64 (-1), .bool true, .bool _]) (by simp [results, Tryz.results42, go_sem]) rfl ⟨.inr (.inl ⟨rfl, HAE.out, rfl, vd, rfl, HD.out⟩), HB3.out⟩)
end Go.Proofs.YtbobbognjmofdaaGreatDoor.Lex
