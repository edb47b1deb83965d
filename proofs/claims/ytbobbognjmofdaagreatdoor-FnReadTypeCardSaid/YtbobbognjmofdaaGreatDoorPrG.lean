/-
  The package's parser: where a node stands, a token passed over or asked for, walked.
-/
import Derived.Test.YtbobbognjmofdaaGreatDoorPrF
namespace Go.Proofs.YtbobbognjmofdaaGreatDoor.Lex
open Go.RowKit Go.Proofs.YtbobbognjmofdaaGreatDoorW.PrintWords Go.Proofs.YtbobbognjmofdaaGreatDoorW.PrintLast Go.Proofs.YtbobbognjmofdaaGreatDoorW.PrintMore
open Go.Proofs.YtbobbognjmofdaaGreatDoor.Ptext
set_option linter.unusedVariables false
set_option linter.unusedSimpArgs false
set_option maxHeartbeats 1000000 in
theorem loc_any (E : PE) (W1 w : World) (t : S24) (pe st : Int) (h : Pk E W1 w t pe) :
    Calls Tryz.prog 118 #[.pointer (some ⟨E.P, 0, none⟩), .int .i64 st] w fun e w' => (∃ p, e = .returned (.pointer (some ⟨p, 0, none⟩)) ∧ LocAt w' p) ∧ Below w.heap.size w w' := by
  have c1 := (blk_cell h.parser 1).trans rfl
  have c2 := (blk_cell h.parser 2).trans rfl
  have c3 := (blk_cell h.parser 3).trans rfl
  have c4 := (blk_cell h.parser 4).trans rfl
  clear h
  go_enter Tryz.func118, Tryz.ntmps118
  go_wp2_with fail
  go_region_with (go_at_call 151; refine (newLoc_any _ st pe (some ⟨E.g, 0, none⟩) _ ?_).mono ?_; (first | exact blk_new _ _ | (have := blk_new w.drew (.cells #[.int .i64 st, .int .i64 pe, .pointer (some ⟨E.g, 0, none⟩)] 207); simpa using this)); rintro e w2 ⟨⟨p, rfl, hp1, hp2⟩, hb2⟩; have HP := Aside0.mk hp2; have HB := Aside0.mk hb2; clear hp2 hb2)
  all_goals
    go_wp2_with fail
    go_ret
    exact ⟨⟨p, rfl, HP.out⟩, (below_drew (below_alloc (Below.refl w.heap.size w) _)).trans (HB.out.mono (by simp))⟩
/-- What comes of a token passed over. -/
def Skipd (E : PE) (W1 : World) (pe : Int) (N : Option S24) (e : Ending) (w' : World) : Prop :=
  match N with
  | none => ∃ q, e = .returned (.tuple #[.bool true, .iface 182 (.pointer (some ⟨q, 0, none⟩))])
  | some t' => e = .returned (.tuple #[.bool true, .nilIface]) ∧ Pk E W1 w' t' pe
set_option maxHeartbeats 1000000 in
theorem skip_yes (E : PE) (W1 w : World) (t : S24) (pe : Int) (N : Option S24) (K : Nat) (h : Pk E W1 w t pe) (h0 : 0 ≤ t.f3) (h1 : t.f3 ≤ E.s.size) (hK : (E.s.size : Int) < t.f3 + K) (hN : nxt E.s K t.f3 false = (N, false)) :
    Calls Tryz.prog 120 #[.pointer (some ⟨E.P, 0, none⟩), .int .i64 t.f0] w fun e w' => Skipd E W1 t.f3 N e w' ∧ Adv E w w' := by
  have HC := Aside0.mk (advance_any E W1 w t pe N K h h0 h1 hK hN)
  have c5 := (blk_cell h.parser 5).trans rfl
  have k0 : (t.f0 == t.f0) = true := by simp
  clear h hN
  go_enter Tryz.func120, Tryz.ntmps120
  go_wp2_with fail
  refine HC.out.mono ?_
  rintro e w2 ⟨h2, ad⟩
  have AD := Aside0.mk ad
  clear ad
  cases N with
  | none =>
    obtain ⟨q, rfl⟩ := h2
    go_wp2_with fail
    go_ret2
    exact ⟨⟨q, rfl⟩, AD.out⟩
  | some t' =>
    obtain ⟨rfl, hp⟩ := h2
    have HP := Aside0.mk hp
    clear hp
    go_wp2_with fail
    go_ret2
    exact ⟨⟨rfl, HP.out⟩, AD.out⟩
set_option maxHeartbeats 400000 in
theorem skip_no (E : PE) (W1 w : World) (t : S24) (pe k : Int) (h : Pk E W1 w t pe) (hk : t.f0 ≠ k) :
    Calls Tryz.prog 120 #[.pointer (some ⟨E.P, 0, none⟩), .int .i64 k] w fun e w' => e = .returned (.tuple #[.bool false, .nilIface]) ∧ w = w' := by
  have c5 := (blk_cell h.parser 5).trans rfl
  have k0 : (t.f0 == k) = false := by simpa using hk
  clear h hk
  go_enter Tryz.func120, Tryz.ntmps120
  go_wp2_with fail
  go_ret2
  exact ⟨rfl, rfl⟩
theorem blk_new2 (w : World) (A B : Obj) : ((w.alloc A).alloc B).heap[w.heap.size + 1]? = some B := by
  have := blk_new (w.alloc A) B
  simpa using this
theorem Pk.set {E : PE} {W1 W : World} {t : S24} {pe : Int} (h : Pk E W1 W t pe) {g : Nat} (hg : W1.heap.size ≤ g) (h1 : E.P ≠ g) (h2 : E.pb ≠ g) (h3 : E.sb ≠ g) (j : Nat) (u : Value) : Pk E W1 (W.setCell ⟨g, j, none⟩ u) t pe :=
  { h with parser := blk_far (p := ⟨g, j, none⟩) h.parser h1 _, place := blk_far (p := ⟨g, j, none⟩) h.place h2 _, source := blk_far (p := ⟨g, j, none⟩) h.source h3 _, below := h.below.setCell hg _ }
theorem Pk.set4 {E : PE} {W1 W : World} {t : S24} {pe : Int} (h : Pk E W1 W t pe) {g : Nat} (hg : W1.heap.size ≤ g) (h1 : E.P ≠ g) (h2 : E.pb ≠ g) (h3 : E.sb ≠ g) (x0 x1 x2 x3 : Value) : Pk E W1 ((((W.setCell ⟨g, 0, none⟩ x0).setCell ⟨g, 1, none⟩ x1).setCell ⟨g, 2, none⟩ x2).setCell ⟨g, 3, none⟩ x3) t pe :=
  (((h.set hg h1 h2 h3 0 x0).set hg h1 h2 h3 1 x1).set hg h1 h2 h3 2 x2).set hg h1 h2 h3 3 x3
theorem Adv.set4 {E : PE} {w w1 : World} (h : Adv E w w1) {g : Nat} (hg : w.heap.size ≤ g) (x0 x1 x2 x3 : Value) : Adv E w ((((w1.setCell ⟨g, 0, none⟩ x0).setCell ⟨g, 1, none⟩ x1).setCell ⟨g, 2, none⟩ x2).setCell ⟨g, 3, none⟩ x3) :=
  (((h.set hg 0 x0).set hg 1 x1).set hg 2 x2).set hg 3 x3
/-- What comes of a token asked for. -/
def Expd (E : PE) (W1 : World) (t : S24) (N : Option S24) (e : Ending) (w' : World) : Prop :=
  match N with
  | none => ∃ q, e = .returned (.tuple #[tk t.f0 t.f2 t.f3 t.f1, .iface 182 (.pointer (some ⟨q, 0, none⟩))])
  | some t' => e = .returned (.tuple #[tk t.f0 t.f2 t.f3 t.f1, .nilIface]) ∧ Pk E W1 w' t' t.f3
set_option maxHeartbeats 4000000 in
theorem expect_yes (E : PE) (W1 w : World) (t : S24) (pe : Int) (N : Option S24) (K : Nat) (h : Pk E W1 w t pe) (h0 : 0 ≤ t.f3) (h1 : t.f3 ≤ E.s.size) (hK : (E.s.size : Int) < t.f3 + K) (hN : nxt E.s K t.f3 false = (N, false)) :
    Calls Tryz.prog 157 #[.pointer (some ⟨E.P, 0, none⟩), .int .i64 t.f0] w fun e w' => Expd E W1 t N e w' ∧ Adv E w w' := by
  have HC := Aside0.mk (fun W (hb : Below w.heap.size w W) => advance_any E W1 W t pe N K (h.keep hb) h0 h1 hK hN)
  have H := Aside0.mk h
  have c5 := (blk_cell h.parser 5).trans rfl
  have c6 := (blk_cell h.parser 6).trans rfl
  have c7 := (blk_cell h.parser 7).trans rfl
  have c8 := (blk_cell h.parser 8).trans rfl
  have hPl := blk_lt h.parser
  have hpl := blk_lt h.place
  have k0 : (t.f0 == t.f0) = true := by simp
  clear h hN
  obtain ⟨t0, t1, t2, t3⟩ := t
  go_enter Tryz.func157, Tryz.ntmps157
  go_wp2_with fail
  cases N with
  | none =>
    go_region_with (go_at_call 116; refine (HC.out _ ?_).mono ?_; (first | exact below_drew (below_alloc (below_alloc (Below.refl _ _) _) _)); rintro e w2 ⟨h2, ad⟩; obtain ⟨q, rfl⟩ := h2; have e0 := (ad.block w.heap.size (by simp; omega) (by omega) (by omega)).trans (blk_alloc (blk_new w _) _); have e1 := (ad.block (w.heap.size + 1) (by simp) (by omega) (by omega)).trans (blk_new2 w _ _); have a0 := (blk_cell e0 0).trans rfl; have a1 := (blk_cell e0 1).trans rfl; have a2 := (blk_cell e0 2).trans rfl; have a3 := (blk_cell e0 3).trans rfl; have fa := fun j => blk_frozen e0 j; have b0 := (blk_cell e1 0).trans rfl; have b1 := (blk_cell e1 1).trans rfl; have b2 := (blk_cell e1 2).trans rfl; have b3 := (blk_cell e1 3).trans rfl; have E0 := Aside0.mk e0; have AD := Aside0.mk ad; clear ad e0 e1)
    all_goals
      go_wp2_with fail
      obtain ⟨q0, q1, q2, q3⟩ := res4 E0.out (.int .i64 t0) (.int .i64 t2) (.int .i64 t3) (.string t1)
      refine bodyPost_ret (v := .tuple #[tk t0 t2 t3 t1, .iface 182 (.pointer (some ⟨q, 0, none⟩))]) (by simp [results, Tryz.results157, go_sem, q0, q1, q2, q3]) rfl ⟨?_, ?_⟩
      · exact ⟨q, rfl⟩
      · exact ((Adv.of_below (below_drew (below_alloc (below_alloc (Below.refl w.heap.size w) _) _))).trans AD.out).set4 (Nat.le_refl _) _ _ _ _
  | some t' =>
    obtain ⟨r0, r1, r2, r3⟩ := t'
    go_region_with (go_at_call 116; refine (HC.out _ ?_).mono ?_; (first | exact below_drew (below_alloc (below_alloc (Below.refl _ _) _) _)); rintro e w2 ⟨h2, ad⟩; obtain ⟨rfl, hp⟩ := h2; have HP := Aside0.mk hp; clear hp; have e0 := (ad.block w.heap.size (by simp; omega) (by omega) (by omega)).trans (blk_alloc (blk_new w _) _); have e1 := (ad.block (w.heap.size + 1) (by simp) (by omega) (by omega)).trans (blk_new2 w _ _); have a0 := (blk_cell e0 0).trans rfl; have a1 := (blk_cell e0 1).trans rfl; have a2 := (blk_cell e0 2).trans rfl; have a3 := (blk_cell e0 3).trans rfl; have fa := fun j => blk_frozen e0 j; have b0 := (blk_cell e1 0).trans rfl; have b1 := (blk_cell e1 1).trans rfl; have b2 := (blk_cell e1 2).trans rfl; have b3 := (blk_cell e1 3).trans rfl; have E0 := Aside0.mk e0; have AD := Aside0.mk ad; clear ad e0 e1)
    all_goals
      go_wp2_with fail
      obtain ⟨q0, q1, q2, q3⟩ := res4 E0.out (.int .i64 t0) (.int .i64 t2) (.int .i64 t3) (.string t1)
      refine bodyPost_ret (v := .tuple #[tk t0 t2 t3 t1, .nilIface]) (by simp [results, Tryz.results157, go_sem, q0, q1, q2, q3]) rfl ⟨?_, ?_⟩
      · exact ⟨rfl, HP.out.set4 H.out.below.size (by omega) (by omega) (by have := blk_lt H.out.source; omega) _ _ _ _⟩
      · exact ((Adv.of_below (below_drew (below_alloc (below_alloc (Below.refl w.heap.size w) _) _))).trans AD.out).set4 (Nat.le_refl _) _ _ _ _
end Go.Proofs.YtbobbognjmofdaaGreatDoor.Lex
