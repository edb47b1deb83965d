import Derived.Test.YtbobbognjmofdaaGreatDoorK22
import Derived.Test.YtbobbognjmofdaaGreatDoorK09
import Derived.Test.YtbobbognjmofdaaGreatDoorK21
section
/-
  The reference's Next, walked.
-/
namespace Go.Proofs.YtbobbognjmofdaaGreatDoor.Lex
open Go.RowKit Go.Proofs.YtbobbognjmofdaaGreatDoorW.PrintWords Go.Proofs.YtbobbognjmofdaaGreatDoorW.PrintLast Go.Proofs.YtbobbognjmofdaaGreatDoorW.PrintMore
open Go.Proofs.YtbobbognjmofdaaGreatDoor.Ptext
set_option linter.unusedVariables false
set_option linter.unusedSimpArgs false
def none24 : S24 := ⟨0, ⟨#[]⟩, 0, 0⟩
/-- Where the reference's loop stands: it goes on; it was refused; it has a token. -/
inductive Stand (s : ByteArray) (NU : Option S24 × Bool) : Nat → LS → Prop where
  | run (j : Nat) (p : Int) (u : Bool) (h0 : 0 ≤ p) (h1 : p ≤ s.size) (h2 : (s.size : Int) < p + j) (h3 : nxt s j p u = NU) : Stand s NU (j + 1) ⟨s, p, [], false, u⟩
  | bad (k : Nat) (p : Int) (u : Bool) (h : NU = (none, u)) : Stand s NU k ⟨s, p, [], true, u⟩
  | tok (k : Nat) (p : Int) (t : S24) (u : Bool) (h : NU = (some t, u)) : Stand s NU k ⟨s, p, [t], false, u⟩
theorem stand_step {s : ByteArray} {NU : Option S24 × Bool} {j : Nat} {p : Int} {u : Bool} (hpt : ∀ p : Int, 0 ≤ p → p < s.size → ((ptS s p).2 = 0 ∨ 1 ≤ (ptS s p).2 ∧ (ptS s p).2 ≤ 4 ∧ p + (ptS s p).2 ≤ s.size))
   (h0 : 0 ≤ p) (hp : p < s.size) (h2 : (s.size : Int) < p + j) (h3 : nxt s j p u = NU) : Stand s NU j (LS.stp ⟨s, p, [], false, u⟩ (stp s p u)) := by
  have hf := stp_fits s hpt p u h0 hp
  obtain ⟨j, rfl⟩ : ∃ i, j = i + 1 := ⟨j - 1, by omega⟩
  rw [nxt, if_neg (by omega)] at h3
  cases hx : stp s p u with
  | skip q v =>
    rw [hx] at h3 hf
    obtain ⟨h4, h5⟩ := hf
    exact .run j q v (by omega) h5 (by omega) h3
  | bad q v =>
    rw [hx] at h3
    exact .bad _ q v h3.symm
  | tok k v e u' =>
    rw [hx] at h3
    exact .tok _ e ⟨k, v, p, e⟩ u' h3.symm
set_option maxRecDepth 4000 in
set_option maxHeartbeats 4000000 in
theorem specNext_any (s : ByteArray) (p : Int) (w : World) (hs : s.size ≤ 2000) (h0 : 0 ≤ p) (hp : p ≤ s.size) :
    Calls Tryz.prog 15 #[.string s, .int .i64 p] w fun e w' => e = .returned (.tuple #[val24 ((nxt s (s.size + 1) p false).1.getD none24), .bool (nxt s (s.size + 1) p false).1.isSome, .bool (!(nxt s (s.size + 1) p false).2)]) ∧ Below w.heap.size w w' := by
  have HPT := Aside0.mk (fun p h1 h2 => pt_tells s (by omega) p h1 h2)
  obtain ⟨⟨N, U⟩, hNU⟩ : ∃ NU, NU = nxt s (s.size + 1) p false := ⟨_, rfl⟩
  rw [← hNU]
  have HNU := Aside0.mk hNU
  clear hNU
  go_enter Tryz.func15, Tryz.ntmps15
  go_wp2_with fail
  go_loopg [12] (s.size + 1 + 1) (fun kq v12 wr => ∃ (x : LS), Aside0 (x.s = s ∧ Stand s (N, U) kq x ∧ Lx wr (w.heap.size + 1) (w.heap.size + 1) x ∧ Below (w.heap.size + 1) (w.alloc (.cells #[.int .i64 0, .string { data := #[] }, .int .i64 0, .int .i64 0] 24)) wr))
  case atStart =>
    refine ⟨⟨s, p, [], false, false⟩, ⟨rfl, .run _ p false h0 hp (by omega) HNU.out.symm, ?_, ?_⟩⟩
    · have := Lx.new (w.alloc (.cells #[.int .i64 0, .string { data := #[] }, .int .i64 0, .int .i64 0] 24)) (w.heap.size + 1) s p (by simp)
      simpa using this
    · have := below_alloc (Below.refl (w.alloc (.cells #[.int .i64 0, .string { data := #[] }, .int .i64 0, .int .i64 0] 24)).heap.size (w.alloc (.cells #[.int .i64 0, .string { data := #[] }, .int .i64 0, .int .i64 0] 24))) (.cells #[.string s, .int .i64 p, .slice none 0 0, .bool false, .bool false] 67)
      simpa using this
  case round =>
    obtain ⟨x, HA⟩ := hrel
    obtain ⟨W1, hW1⟩ : ∃ W1, W1 = w.alloc (.cells #[.int .i64 0, .string { data := #[] }, .int .i64 0, .int .i64 0] 24) := ⟨_, rfl⟩
    have HL := Aside0.mk HA.out.2.2.1
    have HB : Aside0 (Below (w.heap.size + 1) W1 wr) := ⟨by rw [hW1]; exact HA.out.2.2.2⟩
    have HSt := Aside0.mk HA.out.2.1
    have hE1 : W1.heap[w.heap.size]? = some (.cells #[.int .i64 0, .string { data := #[] }, .int .i64 0, .int .i64 0] 24 (0, 0)) := by rw [hW1]; exact heap_alloc_new _ _
    have hWB : Below w.heap.size w W1 := by rw [hW1]; exact below_alloc (Below.refl _ _) _
    have hWz : W1.heap.size = w.heap.size + 1 := by rw [hW1]; simp
    have HW1 := Aside0.mk hW1
    have HE1 := Aside0.mk hE1
    have HWB := Aside0.mk hWB
    have hwr : w.heap.size + 1 ≤ wr.heap.size := by have := HB.out.size; omega
    have e0 := (HB.out.block w.heap.size (by omega)).trans HE1.out
    have HBw := Aside0.mk (HWB.out.trans (HB.out.mono (by omega)))
    clear HA hW1 hE1 hWB hWz
    have d0 := (blk_cell e0 0).trans rfl
    have d1 := (blk_cell e0 1).trans rfl
    have d2 := (blk_cell e0 2).trans rfl
    have d3 := (blk_cell e0 3).trans rfl
    have f0 := fun j => blk_frozen e0 j
    have E0 := Aside0.mk e0
    clear e0
    obtain ⟨v, c0, c1, c2, c3, c4, fz⟩ := HL.out.cells
    rcases HSt.out with ⟨j, q, u, hq0, hq1, hq2, hq3⟩ | ⟨k, q, u, hn⟩ | ⟨k, q, t, u, hn⟩
    · by_cases hlt : q < (s.size : Int)
      · have hltb : decide (q < (s.size : Int)) = true := decide_eq_true hlt
        obtain ⟨A, cp, hc, hC, c2'⟩ := HL.out.slice
        have c2' : wr.cell? ⟨w.heap.size + 1, 2, none⟩ = some (.slice A 0 cp) := c2'
        have hst := stand_step (NU := (N, U)) (fun p h1 h2 => (HPT.out p h1 h2).2) hq0 hlt hq2 hq3
        have HST := Aside0.mk hst
        clear c2 hc hC hst
        go_wp2_with fail
        refine (token_any (w.heap.size + 1) (w.heap.size + 1) ⟨s, q, [], false, u⟩ wr HL.out hwr hq0 hlt hs (by simp) HPT.out).mono ?_
        rintro e w2 ⟨rfl, hX2, hB2⟩
        have HX2 := Aside0.mk hX2
        have HB2 := Aside0.mk (HB.out.trans hB2)
        clear hX2 hB2
        go_wp2_with fail
        go_roundg j
        case measure => omega
        case rel => exact ⟨_, ⟨by cases stp s q u <;> rfl, HST.out, HX2.out, by rw [← HW1.out]; exact HB2.out⟩⟩
      · have hltb : decide (q < (s.size : Int)) = false := decide_eq_false hlt
        obtain ⟨A, cp, hc, hC, c2'⟩ := HL.out.slice
        have c2' : wr.cell? ⟨w.heap.size + 1, 2, none⟩ = some (.slice A 0 cp) := c2'
        have hfin : (N, U) = (some ⟨1, ⟨#[]⟩, s.size, s.size⟩, u) := by
          rw [← hq3]
          cases j with
          | zero => rfl
          | succ j => rw [nxt, if_pos (by omega)]
        obtain ⟨rfl, rfl⟩ := Prod.mk.inj hfin
        clear c2 hc hC hfin
        go_wp2_with fail
        go_region
        go_wp2_with fail
        have e4 := blk_set (blk_set (blk_set (blk_set E0.out 0 (.int .i64 1)) 1 (.string ⟨#[]⟩)) 2 (.int .i64 s.size)) 3 (.int .i64 s.size)
        have q0 := (blk_cell e4 0).trans rfl
        have q1 := (blk_cell e4 1).trans rfl
        have q2 := (blk_cell e4 2).trans rfl
        have q3 := (blk_cell e4 3).trans rfl
        refine bodyPost_ret (v := .tuple #[.agg #[.int .i64 1, .string ⟨#[]⟩, .int .i64 s.size, .int .i64 s.size], .bool true, .bool (!U)]) (by simp [results, Tryz.results15, go_sem, q0, q1, q2, q3]) rfl ⟨rfl, ?_⟩
        exact pw_below_drewN ((((HBw.out.setCell (Nat.le_refl _) _).setCell (Nat.le_refl _) _).setCell (Nat.le_refl _) _).setCell (Nat.le_refl _) _) 1
    · obtain ⟨rfl, rfl⟩ := Prod.mk.inj hn
      clear hn
      go_wp2_with fail
      go_region
      go_wp2_with fail
      have e4 := blk_set (blk_set (blk_set (blk_set E0.out 0 (.int .i64 0)) 1 (.string ⟨#[]⟩)) 2 (.int .i64 0)) 3 (.int .i64 0)
      have q0 := (blk_cell e4 0).trans rfl
      have q1 := (blk_cell e4 1).trans rfl
      have q2 := (blk_cell e4 2).trans rfl
      have q3 := (blk_cell e4 3).trans rfl
      refine bodyPost_ret (v := .tuple #[.agg #[.int .i64 0, .string ⟨#[]⟩, .int .i64 0, .int .i64 0], .bool false, .bool (!U)]) (by simp [results, Tryz.results15, go_sem, q0, q1, q2, q3]) rfl ⟨rfl, ?_⟩
      exact pw_below_drewN ((((HBw.out.setCell (Nat.le_refl _) _).setCell (Nat.le_refl _) _).setCell (Nat.le_refl _) _).setCell (Nat.le_refl _) _) 1
    · obtain ⟨rfl, rfl⟩ := Prod.mk.inj hn
      obtain ⟨A, cp, hc, hC, c2'⟩ := HL.out.slice
      have hq := at_T24 hC 0 (by omega) (by simp)
      obtain ⟨ad, rfl, g0, g1, g2, g3⟩ := hq
      have et : rd_T24 [t] 0 = t := rfl
      rw [et] at g0 g1 g2 g3
      have g0 : wr.cell? ad = some (.int .i64 t.f0) := g0
      have g1 : wr.cell? ⟨ad.block, ad.off + 1, none⟩ = some (.string t.f1) := g1
      have g2 : wr.cell? ⟨ad.block, ad.off + 2, none⟩ = some (.int .i64 t.f2) := g2
      have g3 : wr.cell? ⟨ad.block, ad.off + 3, none⟩ = some (.int .i64 t.f3) := g3
      have c2'' : wr.cell? ⟨w.heap.size + 1, 2, none⟩ = some (.slice (some ad) 1 cp) := c2'
      have hcp : (1 : Int) ≤ (cp : Int) := by simp at hc; omega
      clear hn hC c2' c2 hc et
      by_cases hlt : q < (s.size : Int)
      all_goals
        first | have hltb : decide (q < (s.size : Int)) = true := decide_eq_true hlt | have hltb : decide (q < (s.size : Int)) = false := decide_eq_false hlt
        go_wp2_with fail
        go_region
        go_wp2_with fail
        have e4 := blk_set (blk_set (blk_set (blk_set E0.out 0 (.int .i64 t.f0)) 1 (.string t.f1)) 2 (.int .i64 t.f2)) 3 (.int .i64 t.f3)
        have q0 := (blk_cell e4 0).trans rfl
        have q1 := (blk_cell e4 1).trans rfl
        have q2 := (blk_cell e4 2).trans rfl
        have q3 := (blk_cell e4 3).trans rfl
        refine bodyPost_ret (v := .tuple #[.agg #[.int .i64 t.f0, .string t.f1, .int .i64 t.f2, .int .i64 t.f3], .bool true, .bool (!U)]) (by simp [results, Tryz.results15, go_sem, q0, q1, q2, q3]) rfl ⟨rfl, ?_⟩
        exact pw_below_drewN ((((HBw.out.setCell (Nat.le_refl _) _).setCell (Nat.le_refl _) _).setCell (Nat.le_refl _) _).setCell (Nat.le_refl _) _) 1
end Go.Proofs.YtbobbognjmofdaaGreatDoor.Lex
end
section
/-
  FnNext: the law itself, walked.
-/
namespace Go.Proofs.YtbobbognjmofdaaGreatDoor.Lex
open Go.RowKit Go.Proofs.YtbobbognjmofdaaGreatDoorW.PrintWords Go.Proofs.YtbobbognjmofdaaGreatDoorW.PrintLast Go.Proofs.YtbobbognjmofdaaGreatDoorW.PrintMore
open Go.Proofs.YtbobbognjmofdaaGreatDoor.Ptext
set_option linter.unusedVariables false
set_option linter.unusedSimpArgs false
theorem stp_kind {s : ByteArray} {p : Int} {u : Bool} {k : Int} {v : ByteArray} {e : Int} {u' : Bool} (h : stp s p u = .tok k v e u') : k ≠ 1 := by
  unfold stp at h
  by_cases h1 : bt s p = 32 ∨ bt s p = 9 ∨ bt s p = 10 ∨ bt s p = 13 ∨ bt s p = 44
  · rw [if_pos h1] at h; cases h
  rw [if_neg h1] at h
  by_cases h2 : st3 s p 239 187 191 = true
  · rw [if_pos h2] at h; cases h
  rw [if_neg h2] at h
  by_cases h3 : bt s p = 35
  · rw [if_pos h3] at h
    exfalso
    have : ∀ (j : Nat) (p : Int) (u : Bool), cm s j p u ≠ .tok k v e u' := by
      intro j
      induction j with
      | zero => intro p u h; cases h
      | succ j ih =>
        intro p u
        rw [cm]
        split
        · intro h; cases h
        split
        · intro h; cases h
        split
        · intro h; cases h
        exact ih _ _
    exact this _ _ _ h
  rw [if_neg h3] at h
  by_cases h4 : st3 s p 46 46 46 = true
  · rw [if_pos h4] at h; injection h with q1; omega
  rw [if_neg h4] at h
  by_cases h5 : 0 < sgn (bt s p)
  · rw [if_pos h5] at h
    injection h with q1
    rw [← q1]
    unfold sgn
    (repeat' split) <;> omega
  rw [if_neg h5] at h
  by_cases h6 : isBg (bt s p) = true
  · rw [if_pos h6] at h; injection h with q1; omega
  rw [if_neg h6] at h
  by_cases h7 : bt s p = 45 ∨ isDg (bt s p) = true
  · rw [if_pos h7] at h
    unfold nums at h
    cases hn : num s p with
    | none => rw [hn] at h; cases h
    | some q =>
      obtain ⟨k1, e1⟩ := q
      have hk := (num_in hn).1
      rw [hn] at h
      have h : (if nx s e1 = 46 ∨ isBg (nx s e1) = true then Stp.bad p true else .tok k1 (s.extract p.toNat e1.toNat) e1 u) = .tok k v e u' := h
      by_cases h8 : nx s e1 = 46 ∨ isBg (nx s e1) = true
      · rw [if_pos h8] at h; cases h
      · rw [if_neg h8] at h; injection h with q1; omega
  rw [if_neg h7] at h
  by_cases h8 : st3 s p 34 34 34 = true
  · rw [if_pos h8] at h
    obtain ⟨r, hr⟩ : ∃ r, r = blk s (s.size + 1) (p + 3) ⟨#[]⟩ u := ⟨_, rfl⟩
    rw [← hr] at h
    obtain ⟨a, b⟩ := r
    cases a with
    | none => cases h
    | some q => injection h with q1; omega
  rw [if_neg h8] at h
  by_cases h9 : bt s p = 34
  · rw [if_pos h9] at h
    obtain ⟨r, hr⟩ : ∃ r, r = txt s (s.size + 1) (p + 1) ⟨#[]⟩ u := ⟨_, rfl⟩
    rw [← hr] at h
    obtain ⟨a, b⟩ := r
    cases a with
    | none => cases h
    | some q => injection h with q1; omega
  rw [if_neg h9] at h
  cases h
theorem nxt_end (s : ByteArray) : ∀ (k : Nat) (p : Int) (u : Bool) (t : S24) (u' : Bool), nxt s k p u = (some t, u') → t.f0 = 1 → t.f1 = ⟨#[]⟩
  | 0, p, u, t, u', h, h1 => by
    obtain rfl := Option.some.inj (Prod.mk.inj h).1
    rfl
  | k + 1, p, u, t, u', h, h1 => by
    rw [nxt] at h
    by_cases hp : (s.size : Int) ≤ p
    · rw [if_pos hp] at h
      obtain rfl := Option.some.inj (Prod.mk.inj h).1
      rfl
    rw [if_neg hp] at h
    cases hx : stp s p u with
    | skip q v => rw [hx] at h; exact nxt_end s k q v t u' h h1
    | bad q v => rw [hx] at h; cases (Prod.mk.inj h).1
    | tok a b c d =>
      rw [hx] at h
      obtain rfl := Option.some.inj (Prod.mk.inj h).1
      exact absurd h1 (stp_kind hx)
set_option maxRecDepth 4000 in
set_option maxHeartbeats 4000000 in
theorem lawNext_any (s : ByteArray) (p : Int) (w : World) (hT : Lib.Utf8Tabs 1 2 w) (hw : (Lit.int .i64 p).wf = true) :
    Calls Tryz.prog 4 #[.string s, .int .i64 p] w fun e w' => e = .returned (.bool true) ∧ Below w.heap.size w w' := by
  have HT := Aside0.mk hT
  clear hT hw
  by_cases hbig : (s.size : Int) ≤ 2147483647
  · have hbb0 : decide ((s.size : Int) > 2147483647) = false := decide_eq_false (by omega)
    obtain ⟨bb, hbb, hb2⟩ := PFnReadString.short_tells s
    have HBB := Aside0.mk hbb
    have HB2 := Aside0.mk hb2
    clear hbb hb2
    go_enter Tryz.func4, Tryz.ntmps4
    go_upto_region 3 with fail
    go_cut [32] (fun v32 wc => ∃ X : Bool, v32 = .bool X ∧ Aside0 (X = false → s.size ≤ 2000 ∧ 0 ≤ p ∧ p ≤ s.size) ∧ Aside0 (Below w.heap.size w wc))
    case first =>
      go_wp2_with fail
      refine (PFnReadString.laws_short9.calls 100100 s bb _ HBB.out).mono ?_
      rintro e w1 ⟨rfl, ⟨m, rfl⟩⟩
      cases bb with
      | false =>
        go_wp2_with fail
        go_meet
        case rel => exact ⟨true, rfl, ⟨fun h => by cases h⟩, ⟨pw_below_drewN (Below.refl _ _) _⟩⟩
      | true =>
        have hs : s.size ≤ 2000 := HB2.out rfl
        by_cases hp0 : p < 0
        · have b1 : decide (p < 0) = true := decide_eq_true hp0
          go_wp2_with fail
          go_meet
          case rel => exact ⟨true, rfl, ⟨fun h => by cases h⟩, ⟨pw_below_drewN (Below.refl _ _) _⟩⟩
        · have b1 : decide (p < 0) = false := decide_eq_false hp0
          by_cases hp1 : p > (s.size : Int)
          · have b2 : decide (p > (s.size : Int)) = true := decide_eq_true hp1
            go_wp2_with fail
            go_meet
            case rel => exact ⟨true, rfl, ⟨fun h => by cases h⟩, ⟨pw_below_drewN (Below.refl _ _) _⟩⟩
          · have b2 : decide (p > (s.size : Int)) = false := decide_eq_false hp1
            obtain ⟨q, hq⟩ : ∃ q, q = s.extract 0 p.toNat := ⟨_, rfl⟩
            obtain ⟨b8, hb8⟩ := PFnReadString.utf8_tells q (by rw [hq, ByteArray.size_extract]; omega)
            have HB8 := Aside0.mk (hb8 100100 (Nat.le_refl _))
            have HQ := Aside0.mk hq
            clear hb8 hq
            go_wp2_with fail
            refine (PFnReadString.spec_UTF8.calls 100100 (s.extract 0 p.toNat) b8 _ (by rw [← HQ.out]; exact HB8.out)).mono ?_
            rintro e w2 ⟨rfl, ⟨m2, rfl⟩⟩
            go_wp2_with fail
            go_meet
            case rel => exact ⟨!b8, rfl, ⟨fun _ => ⟨hs, by omega, by omega⟩⟩, ⟨pw_below_drewN (Below.refl _ _) _⟩⟩
    case rest =>
    obtain ⟨X, rfl, HX, HB⟩ := hcut
    cases X with
    | true =>
      go_wp2_with fail
      go_ret
      exact ⟨rfl, HB.out⟩
    | false =>
    obtain ⟨hs, hp0, hp1⟩ := HX.out rfl
    obtain ⟨⟨N, U⟩, hNU⟩ : ∃ NU, NU = nxt s (s.size + 1) p false := ⟨_, rfl⟩
    have hnx := specNext_any s p wc hs hp0 hp1
    rw [← hNU] at hnx
    have HN := Aside0.mk hnx
    have HNU := Aside0.mk hNU
    clear hnx hNU
    go_wp2_with fail
    refine HN.out.mono ?_
    rintro e w2 ⟨rfl, hb2⟩
    have HB2 := Aside0.mk (below_then HB.out HB.out.size hb2)
    clear hb2
    obtain ⟨t, ht⟩ : ∃ t, t = N.getD none24 := ⟨_, rfl⟩
    obtain ⟨ok, hok⟩ : ∃ ok, ok = N.isSome := ⟨_, rfl⟩
    rw [show ((N, U).1.getD none24) = t from ht.symm, show ((N, U).1.isSome) = ok from hok.symm]
    have HTT := Aside0.mk ht
    have HOK := Aside0.mk hok
    clear ht hok
    cases U with
    | true =>
      go_wp2_with fail
      go_ret
      exact ⟨rfl, HB2.out.alloc HB2.out.size _⟩
    | false =>
      have him := fun W hT => implNext_any s p N W hs hp0 hp1 hT HNU.out.symm
      have HIM := Aside0.mk him
      clear him
      have HT2 := Aside0.mk (tabs_below HT.out (HB2.out.alloc HB2.out.size (.cells #[.int .i64 t.f0, .string t.f1, .int .i64 t.f2, .int .i64 t.f3] 24)))
      go_wp2_with fail
      refine (HIM.out _ HT2.out).mono ?_
      rw [show N.getD ⟨0, ⟨#[]⟩, 0, 0⟩ = t from HTT.out.symm, ← HOK.out]
      rintro e w3 ⟨rfl, hb3⟩
      have e0 : w3.heap[w2.heap.size]? = some (.cells #[.int .i64 t.f0, .string t.f1, .int .i64 t.f2, .int .i64 t.f3] 24 (0, 0)) := by
        rw [hb3.block _ (by simp)]; exact heap_alloc_new _ _
      have hz : w2.heap.size < w3.heap.size := by have := hb3.size; simp at this; omega
      have HB3 := Aside0.mk ((HB2.out.alloc HB2.out.size (.cells #[.int .i64 t.f0, .string t.f1, .int .i64 t.f2, .int .i64 t.f3] 24)).trans (hb3.mono (by have := HB2.out.size; simp; omega)))
      clear hb3
      have d0 := (blk_cell e0 0).trans rfl
      have d1 := (blk_cell e0 1).trans rfl
      have d2 := (blk_cell e0 2).trans rfl
      have d3 := (blk_cell e0 3).trans rfl
      clear e0
      by_cases hk : ok = true ∧ t.f0 = 1
      · obtain ⟨hk1, hk2⟩ := hk
        have hv : t.f1 = ⟨#[]⟩ := by
          cases N with
          | none => rw [HOK.out] at hk1; cases hk1
          | some t2 =>
            have e : t = t2 := HTT.out
            rw [e] at hk2 ⊢
            exact nxt_end s _ p false t2 false HNU.out.symm hk2
        have hkb : (t.f0 == 1) = true := by simp [hk2]
        have hvb : (t.f1.toList == ([] : List UInt8)) = true := by rw [hv, ByteArray.toList_eq]; rfl
        have hvb2 : (t.f1.toList == (⟨#[]⟩ : ByteArray).toList) = true := by rw [hv, beq_self_eq_true]
        subst hk1
        clear hk2 hv
        go_wp2_with fail
        go_ret
        exact ⟨by first | rfl | simp [hvb, hvb2], HB3.out.alloc HB3.out.size _⟩
      · cases ok with
        | true =>
          have hkb : (t.f0 == 1) = false := by simp; exact fun h => hk ⟨rfl, h⟩
          clear hk
          go_wp2_with fail
          refine (PFnReadString.laws_told9.calls t.f0 t.f1 t.f2 t.f3 true t.f0 t.f1 t.f2 t.f3 true true _ (told_same t true)).mono ?_
          rintro e w4 ⟨rfl, hb4⟩
          have HB4 := Aside0.mk ((HB3.out.alloc HB3.out.size _).trans (hb4.mono (by have := HB3.out.size; simp; omega)))
          clear hb4
          go_wp2_with fail
          go_ret
          exact ⟨rfl, HB4.out⟩
        | false =>
          clear hk
          go_wp2_with fail
          refine (PFnReadString.laws_told9.calls t.f0 t.f1 t.f2 t.f3 false t.f0 t.f1 t.f2 t.f3 false true _ (told_same t false)).mono ?_
          rintro e w4 ⟨rfl, hb4⟩
          have HB4 := Aside0.mk ((HB3.out.alloc HB3.out.size _).trans (hb4.mono (by have := HB3.out.size; simp; omega)))
          clear hb4
          go_wp2_with fail
          go_ret
          exact ⟨rfl, HB4.out⟩
  · go_enter Tryz.func4, Tryz.ntmps4
    go_wp2_with fail
    all_goals
      go_ret
      exact ⟨rfl, Below.refl _ _⟩
end Go.Proofs.YtbobbognjmofdaaGreatDoor.Lex
end
