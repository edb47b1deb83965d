/-
  FnTokens: the package's lexer as a function value, and the thin package's Tokens, walked.
-/
import Derived.Test.YtbobbognjmofdaaGreatDoorTkP
namespace Go.Proofs.YtbobbognjmofdaaGreatDoor.Lex
open Go.RowKit Go.Proofs.YtbobbognjmofdaaGreatDoorW.PrintWords Go.Proofs.YtbobbognjmofdaaGreatDoorW.PrintLast Go.Proofs.YtbobbognjmofdaaGreatDoorW.PrintMore
open Go.Proofs.YtbobbognjmofdaaGreatDoor.Ptext
set_option linter.unusedVariables false
set_option linter.unusedSimpArgs false
theorem below_of_le {B B' : Nat} {w w' : World} (h : Below B w w') (hb : B' ≤ B) : Below B' w w' := h.mono hb
/-- The same store on both sides. -/
theorem below_both {B pb T : Nat} {w w2 : World} {cs : Array Value} (hb : Below B w w2) (h : w.heap[pb]? = some (.cells cs T (0, 0))) (hlt : pb < B) (j : Nat) (v : Value) : Below B (w.setCell ⟨pb, j, none⟩ v) (w2.setCell ⟨pb, j, none⟩ v) := by
  have s1 := (Below.refl 0 w).setCell (p := ⟨pb, j, none⟩) (Nat.zero_le _) v
  have s2 := (Below.refl 0 w2).setCell (p := ⟨pb, j, none⟩) (Nat.zero_le _) v
  refine ⟨?_, ?_, ?_, ?_, fun k hk => ?_⟩
  · rw [s2.os, s1.os, hb.os]
  · rw [s2.tape, s1.tape, hb.tape]
  · rw [s2.output, s1.output, hb.output]
  · have := hb.size; simpa using this
  · by_cases e : k = pb
    · subst e
      exact (blk_set ((hb.block _ hk).trans h) j v).trans (blk_set h j v).symm
    · exact (Below.heap_setCell w2 ⟨pb, j, none⟩ v k e).trans ((hb.block k hk).trans (Below.heap_setCell w ⟨pb, j, none⟩ v k e).symm)
set_option maxHeartbeats 400000 in
/-- A source without a name gets one. -/
theorem newSource_any (g : Nat) (v : Value) (w : World) (h : w.heap[g]? = some (.cells #[v, .string ⟨#[]⟩] 76 (0, 0))) :
    Calls Tryz.prog 41 #[.pointer (some ⟨g, 0, none⟩)] w fun e w' => e = .returned (.pointer (some ⟨g, 0, none⟩)) ∧ w'.cell? ⟨g, 0, none⟩ = some v ∧ Below g w w' ∧ w'.heap.size = w.heap.size := by
  have H := Aside0.mk h
  have c1 := (blk_cell h 1).trans rfl
  have f1 := blk_frozen h 1
  clear h
  go_enter Tryz.func41, Tryz.ntmps41
  go_wp2_with fail
  go_ret
  exact ⟨rfl, (blk_cell (blk_set H.out 1 _) 0).trans rfl, (Below.refl g w).setCell (p := ⟨g, 1, none⟩) (Nat.le_refl _) _, by simp⟩
set_option maxHeartbeats 400000 in
/-- A lexer over a source: a function value over two new blocks. -/
theorem lexLex_any (g : Nat) (w : World) :
    Calls Tryz.prog 40 #[.pointer (some ⟨g, 0, none⟩)] w fun e w' => e = .returned (.func (.func 67) #[] #[.pointer (some ⟨w.heap.size + 1, 0, none⟩), .pointer (some ⟨w.heap.size, 0, none⟩)]) ∧
      w'.heap[w.heap.size]? = some (.cells #[.pointer (some ⟨g, 0, none⟩)] 72 (0, 0)) ∧ w'.heap[w.heap.size + 1]? = some (.cells #[.int .i64 0] 3 (0, 0)) ∧ Below w.heap.size w w' ∧ w'.heap.size = w.heap.size + 2 := by
  go_enter Tryz.func40, Tryz.ntmps40
  go_wp2_with fail
  go_ret
  refine ⟨rfl, ?_, ?_, ((Below.refl _ _).alloc (Nat.le_refl _) _).alloc (by simp) _, by simp⟩
  · exact blk_alloc (blk_new _ _) _
  · have := blk_new (w.alloc (.cells #[.pointer (some ⟨g, 0, none⟩)] 72)) (.cells #[.int .i64 0] 3)
    simpa using this
theorem blk_grown {w w1 : World} {g T E : Nat} {cs : Array Value} {v : Value} (h : w.heap[g]? = some (.cells cs T (0, 0))) (hg : w.grownBy w1 v.ownBlock) (ht : ∀ k, v.ownBlock = some k → ∃ cells, w.heap[k]? = some (.cells cells E (0, 0))) (hne : T ≠ E) : w1.heap[g]? = some (.cells cs T (0, 0)) :=
  (hg.block g (blk_lt h) (fun e => by
    obtain ⟨c, hc⟩ := ht g e.symm
    rw [h] at hc
    injection hc with hc
    injection hc with _ h2
    exact hne h2)).trans h
/-- What a call of the lexer does to memory: its place moves on, if it has a token. -/
def Moved (pb : Nat) (N : Option S24) (w w' : World) : Prop :=
  match N with
  | none => Below w.heap.size w w'
  | some t => Below w.heap.size (w.setCell ⟨pb, 0, none⟩ (.int .i64 t.f3)) w'
set_option maxHeartbeats 2000000 in
theorem lexer_any (s : ByteArray) (g b c sb pb K : Nat) (r p q : Int) (N : Option S24) (w : World) (hq : q = if r = 0 then p else r) (hS : Src w b c s)
    (hg : w.cell? ⟨g, 0, none⟩ = some (.slice (some ⟨b, 0, none⟩) s.size c)) (hsb : w.cell? ⟨sb, 0, none⟩ = some (.pointer (some ⟨g, 0, none⟩)))
    (hpb : w.heap[pb]? = some (.cells #[.int .i64 p] 3 (0, 0))) (hs : s.size ≤ 2000) (h0 : 0 ≤ q) (h1 : q ≤ s.size) (hK : (s.size : Int) < q + K) (hN : nxt s K q false = (N, false)) :
    Calls Tryz.prog 67 #[.int .i64 r, .pointer (some ⟨pb, 0, none⟩), .pointer (some ⟨sb, 0, none⟩)] w fun e w' => Told e (ofS24 N) ∧ Moved pb N w w' := by
  have HS := Aside0.mk hS
  have HN := Aside0.mk hN
  have HPB := Aside0.mk hpb
  have HG := Aside0.mk hg
  have hpl := blk_lt hpb
  have hsb1 : ∀ o, (w.alloc o).cell? ⟨sb, 0, none⟩ = some (.pointer (some ⟨g, 0, none⟩)) := fun o => PFnReadString.old_cell (below_alloc (Below.refl _ _) o) hsb
  have hpb1 : ∀ o, (w.alloc o).cell? ⟨pb, 0, none⟩ = some (.int .i64 p) := fun o => (blk_cell (blk_alloc hpb o) 0).trans rfl
  clear hS hN hpb hg hsb
  obtain ⟨W1, hW1⟩ : ∃ W1, W1 = w.alloc (.cells #[.int .i64 0, .int .i64 0, .int .i64 0, .string ⟨#[]⟩] 58) := ⟨_, rfl⟩
  have hB1 : Below w.heap.size w W1 := by rw [hW1]; exact below_alloc (Below.refl _ _) _
  have hE1 : W1.heap[w.heap.size]? = some (.cells #[.int .i64 0, .int .i64 0, .int .i64 0, .string ⟨#[]⟩] 58 (0, 0)) := by rw [hW1]; exact heap_alloc_new _ _
  have hsb2 : W1.cell? ⟨sb, 0, none⟩ = some (.pointer (some ⟨g, 0, none⟩)) := by rw [hW1]; exact hsb1 _
  have hpb2 : W1.cell? ⟨pb, 0, none⟩ = some (.int .i64 p) := by rw [hW1]; exact hpb1 _
  have hz1 : W1.heap.size = w.heap.size + 1 := by rw [hW1]; simp
  have hS1 := HS.out.below hB1
  have hg1 := PFnReadString.old_cell hB1 HG.out
  have HC := Aside0.mk (readToken_any s g b c K q N W1 hS1 hg1 hs h0 h1 hK HN.out)
  have HB1 := Aside0.mk hB1
  have HE1 := Aside0.mk hE1
  have HZ1 := Aside0.mk hz1
  have HQ := Aside0.mk hq
  have HW1 := Aside0.mk hW1
  have hc : (r = 0 ∧ q = p) ∨ (r ≠ 0 ∧ q = r) := by
    by_cases h : r = 0
    · exact .inl ⟨h, by rw [hq, if_pos h]⟩
    · exact .inr ⟨h, by rw [hq, if_neg h]⟩
  clear hB1 hE1 hz1 hS1 hg1 hq HQ hW1 hsb2 hpb2
  obtain ⟨T, hT⟩ : ∃ T, T = ofS24 N := ⟨_, rfl⟩
  rw [← hT]
  have HTT := Aside0.mk hT
  clear hT
  rcases hc with ⟨rfl, rfl⟩ | ⟨hr, rfl⟩
  case' inr => have hrb : (q == 0) = false := by simpa using hr
  all_goals
    go_enter Tryz.func67, Tryz.ntmps67
    go_wp2_with fail
    rw [← HW1.out]
    clear hsb1 hpb1
    refine HC.out.mono ?_
    rw [← HTT.out]
    rintro e w2 ⟨he2, hb2⟩
    have e0 := (hb2.block w.heap.size (by have := HZ1.out; omega)).trans HE1.out
    have hz2 : w.heap.size < w2.heap.size := by have := hb2.size; have := HZ1.out; omega
    have HB2 := Aside0.mk (HB1.out.trans (hb2.mono (by have := HZ1.out; omega)))
    have hp2 := (HB2.out.block pb hpl).trans HPB.out
    clear hb2
    have E0 := Aside0.mk e0
    have P2 := Aside0.mk hp2
    have n0 : pb < w2.heap.size := by omega
    have n1 : w2.heap.size ≠ pb := by omega
    have n2 : pb ≠ w2.heap.size := by omega
    have n3 : w.heap.size ≠ pb := by omega
    have n4 : pb ≠ w.heap.size := by omega
    have n5 : w.heap.size ≠ w2.heap.size := by omega
    have n6 : w2.heap.size ≠ w.heap.size := by omega
    have fa := fun j => blk_frozen e0 j
    have da0 := (blk_cell e0 0).trans rfl
    have da1 := (blk_cell e0 1).trans rfl
    have da2 := (blk_cell e0 2).trans rfl
    have da3 := (blk_cell e0 3).trans rfl
    have dp := (blk_cell hp2 0).trans rfl
    have fp := blk_frozen hp2 0
    clear e0 hp2
    cases T with
    | none =>
      obtain ⟨x, rfl⟩ := he2
      go_wp2_with fail
      obtain ⟨q0, q1, q2, q3⟩ := res4a E0.out (.int .i64 0) (.int .i64 0) (.int .i64 0) (.string ⟨#[]⟩) (.cells #[.int .i64 0, .int .i64 0, .int .i64 0, .string ⟨#[]⟩] 58)
      refine bodyPost_ret (v := .tuple #[tk 0 0 0 ⟨#[]⟩, .iface 182 (.pointer (some ⟨x, 0, none⟩))]) (by simp [results, Tryz.results67, go_sem, q0, q1, q2, q3]) rfl ⟨?_, ?_⟩
      · exact ⟨x, rfl⟩
      cases N with
      | some t => exact absurd HTT.out (by simp [ofS24])
      | none => exact (set4_below HB2.out (Nat.le_refl _) _ _ _ _).alloc (by simp; omega) _
    | some t =>
      obtain ⟨t0, t1, t2, t3⟩ := t
      obtain rfl : e = .returned (.tuple #[tk t0 t1 t2 t3, .nilIface]) := he2
      go_wp2_with fail
      obtain ⟨q0, q1, q2, q3⟩ := res4a (blk_far (p := ⟨pb, 0, none⟩) E0.out n3 (.int .i64 t2)) (.int .i64 t0) (.int .i64 t1) (.int .i64 t2) (.string t3) (.cells #[.int .i64 t0, .int .i64 t1, .int .i64 t2, .string t3] 58)
      refine bodyPost_ret (v := .tuple #[tk t0 t1 t2 t3, .nilIface]) (by simp [results, Tryz.results67, go_sem, q0, q1, q2, q3]) rfl ⟨?_, ?_⟩
      · exact rfl
      cases N with
      | none => exact absurd HTT.out (by simp [ofS24])
      | some t =>
        have ht := HTT.out
        obtain ⟨k0, k1, k2, k3⟩ := t
        simp only [ofS24, Option.map_some, Option.some.injEq, Prod.mk.injEq] at ht
        obtain ⟨rfl, rfl, rfl, rfl⟩ := ht
        exact (set4_below (below_both HB2.out HPB.out hpl 0 _) (Nat.le_refl _) _ _ _ _).alloc (by simp; omega) _
end Go.Proofs.YtbobbognjmofdaaGreatDoor.Lex
