import Derived.Test.YtbobbognjmofdaaGreatDoorLexText
import Derived.RegionTactic
import Derived.BigRegion
import Derived.ChangeAlike
namespace Go.Proofs.YtbobbognjmofdaaGreatDoor.Lex
open Go.RowKit Go.Proofs.YtbobbognjmofdaaGreatDoorW.PrintWords Go.Proofs.YtbobbognjmofdaaGreatDoorW.PrintLast Go.Proofs.YtbobbognjmofdaaGreatDoorW.PrintMore
open Go.Proofs.YtbobbognjmofdaaGreatDoor.Ptext
set_option linter.unusedVariables false
set_option linter.unusedSimpArgs false
theorem Lx.new (w : World) (base : Nat) (s : ByteArray) (i : Int) (hb : base ≤ w.heap.size) :
    Lx (w.alloc (.cells #[.string s, .int .i64 i, .slice none 0 0, .bool false, .bool false] 67)) base w.heap.size ⟨s, i, [], false, false⟩ :=
  ⟨.slice none 0 0, heap_alloc_new _ _, hb, Kd.R_nil _ _ _ _ _⟩
/-- What the reference hands back: the token, whether there is one, whether that is sure. -/
def LS.tok (y : LS) : S24 := if y.bad then ⟨0, ⟨#[]⟩, 0, 0⟩ else y.out.headD ⟨0, ⟨#[]⟩, 0, 0⟩
abbrev val24 (t : S24) : Value := .agg #[.int .i64 t.f0, .string t.f1, .int .i64 t.f2, .int .i64 t.f3]
def LS.ok (y : LS) : Bool := !y.bad && !y.out.isEmpty
/-- What a string at the beginning of a text is, told by the reference. -/
abbrev strRef (s : ByteArray) : LS := LS.after ⟨s, 0, [], false, false⟩ (txt s (s.size + 1) 1 ⟨#[]⟩ false)
theorem step32_any (base g : Nat) (x : LS) (w : World) (h : Lx w base g x) (hbase : base ≤ w.heap.size) (hi : 0 ≤ x.at_) (hi2 : x.at_ ≤ x.s.size) (hs : x.s.size ≤ 2000) (hl : (x.out.length + 1) * 40 ≤ 140737488355328)
   (hpt : ∀ p : Int, 0 ≤ p → p < x.s.size → spec_Point.f 12 x.s p = some (ptS x.s p) ∧ ((ptS x.s p).2 = 0 ∨ 1 ≤ (ptS x.s p).2 ∧ (ptS x.s p).2 ≤ 4 ∧ p + (ptS x.s p).2 ≤ x.s.size)) :
    Calls Tryz.prog 32 #[.pointer (some ⟨g, 0, none⟩)] w fun e w' => e = .returned (.tuple #[]) ∧ Lx w' base g (x.after (txt x.s (x.s.size + 1) (x.at_ + 1) ⟨#[]⟩ x.unsure)) ∧ Below base w w' := by
  have HT := Aside0.mk (text_any base g x w h hbase hi hi2 hs hl hpt)
  clear h hpt
  go_enter Tryz.func32, Tryz.ntmps32
  go_wp2_with fail
  refine HT.out.mono ?_
  rintro e w1 ⟨rfl, h1, h2⟩
  have H1 := Aside0.mk h1
  have H2 := Aside0.mk h2
  clear h1 h2
  go_wp2_with fail
  go_end0
  exact ⟨rfl, H1.out, H2.out⟩
set_option maxHeartbeats 400000 in
theorem only_any (s : ByteArray) (w : World) (hs : s.size ≤ 2000)
   (hpt : ∀ p : Int, 0 ≤ p → p < s.size → spec_Point.f 12 s p = some (ptS s p) ∧ ((ptS s p).2 = 0 ∨ 1 ≤ (ptS s p).2 ∧ (ptS s p).2 ≤ 4 ∧ p + (ptS s p).2 ≤ s.size)) :
    Calls Tryz.prog 31 #[.string s, .bool true, .func (.func 32) #[] #[]] w fun e w' => e = .returned (.tuple #[val24 (strRef s).tok, .bool (strRef s).ok, .bool (!(strRef s).unsure)]) ∧ Below w.heap.size w w' := by
  have HPT := Aside0.mk hpt
  clear hpt
  obtain ⟨y, hy⟩ : ∃ y, y = strRef s := ⟨_, rfl⟩
  rw [← hy]
  have HY := Aside0.mk hy
  clear hy
  go_enter Tryz.func31, Tryz.ntmps31
  go_wp2_with fail
  refine (step32_any (w.heap.size + 1) (w.heap.size + 1) ⟨s, 0, [], false, false⟩ _ (by have := Lx.new (w.alloc (.cells #[.int .i64 0, .string { data := #[] }, .int .i64 0, .int .i64 0] 24)) (w.heap.size + 1) s 0 (by simp); simpa using this) (by simp) (by simp) (by simp) hs (by simp) HPT.out).mono ?_
  rintro e w1 ⟨rfl, h1, h2⟩
  have hb : Below w.heap.size w w1 := below_alloc (below_alloc (Below.refl _ _) _) _ |>.trans (h2.mono (by omega))
  have e0 : w1.heap[w.heap.size]? = some (.cells #[.int .i64 0, .string { data := #[] }, .int .i64 0, .int .i64 0] 24 (0, 0)) := by
    rw [h2.block _ (by omega)]
    rw [heap_alloc_old _ _ (by simp)]
    exact heap_alloc_new _ _
  have HBB := Aside0.mk hb
  clear hb h2
  rw [show (0 : Int) + 1 = 1 from rfl] at h1
  have h1 : Lx w1 (w.heap.size + 1) (w.heap.size + 1) (strRef s) := h1
  rw [← HY.out] at h1
  have hs3 : y.bad = true ∨ ∃ t, y.bad = false ∧ y.out = [t] := by
    rw [HY.out]; unfold strRef LS.after; split
    · exact .inr ⟨_, rfl, rfl⟩
    · exact .inl rfl
  have H1 := Aside0.mk h1
  have d0 := (blk_cell e0 0).trans rfl
  have d1 := (blk_cell e0 1).trans rfl
  have d2 := (blk_cell e0 2).trans rfl
  have d3 := (blk_cell e0 3).trans rfl
  have f0 := fun j => blk_frozen e0 j
  have E0 := Aside0.mk e0
  clear e0
  obtain ⟨v, c0, c1, c2, c3, c4, fz⟩ := h1.cells
  rcases hs3 with hb | ⟨t, hb, ho⟩
  · rw [hb] at c3
    clear h1
    go_wp2_with fail
    go_region
    go_wp2_with fail
    have e4 := blk_set (blk_set (blk_set (blk_set E0.out 0 (.int .i64 0)) 1 (.string ⟨#[]⟩)) 2 (.int .i64 0)) 3 (.int .i64 0)
    have q0 := (blk_cell e4 0).trans rfl
    have q1 := (blk_cell e4 1).trans rfl
    have q2 := (blk_cell e4 2).trans rfl
    have q3 := (blk_cell e4 3).trans rfl
    refine bodyPost_ret (v := .tuple #[.agg #[.int .i64 0, .string ⟨#[]⟩, .int .i64 0, .int .i64 0], .bool false, .bool !y.unsure]) (by simp [results, Tryz.results31, go_sem, q0, q1, q2, q3]) rfl ⟨?_, ?_⟩
    · simp [LS.tok, LS.ok, val24, hb]
    · exact pw_below_drewN ((((HBB.out.setCell (Nat.le_refl _) _).setCell (Nat.le_refl _) _).setCell (Nat.le_refl _) _).setCell (Nat.le_refl _) _) 1
  · rw [hb] at c3
    obtain ⟨A, cp, hc, hC, c2'⟩ := h1.slice
    rw [ho] at hc hC c2'
    have hq := at_T24 hC 0 (by omega) (by simp)
    obtain ⟨ad, rfl, g0, g1, g2, g3⟩ := hq
    have et : rd_T24 [t] 0 = t := rfl
    rw [et] at g0 g1 g2 g3
    have g0 : w1.cell? ad = some (.int .i64 t.f0) := g0
    have g1 : w1.cell? ⟨ad.block, ad.off + 1, none⟩ = some (.string t.f1) := g1
    have g2 : w1.cell? ⟨ad.block, ad.off + 2, none⟩ = some (.int .i64 t.f2) := g2
    have g3 : w1.cell? ⟨ad.block, ad.off + 3, none⟩ = some (.int .i64 t.f3) := g3
    have c2'' : w1.cell? ⟨w.heap.size + 1, 2, none⟩ = some (.slice (some ad) 1 cp) := c2'
    have hcp : (1 : Int) ≤ (cp : Int) := by simp at hc; omega
    have HO := Aside0.mk ho
    clear h1 hC c2' c2 hc et ho
    go_wp2_with fail
    go_region
    go_wp2_with fail
    have e4 := blk_set (blk_set (blk_set (blk_set E0.out 0 (.int .i64 t.f0)) 1 (.string t.f1)) 2 (.int .i64 t.f2)) 3 (.int .i64 t.f3)
    have q0 := (blk_cell e4 0).trans rfl
    have q1 := (blk_cell e4 1).trans rfl
    have q2 := (blk_cell e4 2).trans rfl
    have q3 := (blk_cell e4 3).trans rfl
    refine bodyPost_ret (v := .tuple #[.agg #[.int .i64 t.f0, .string t.f1, .int .i64 t.f2, .int .i64 t.f3], .bool true, .bool !y.unsure]) (by simp [results, Tryz.results31, go_sem, q0, q1, q2, q3]) rfl ⟨?_, ?_⟩
    · simp [LS.tok, LS.ok, val24, hb, HO.out]
    · exact pw_below_drewN ((((HBB.out.setCell (Nat.le_refl _) _).setCell (Nat.le_refl _) _).setCell (Nat.le_refl _) _).setCell (Nat.le_refl _) _) 1
theorem ne_empty (s : ByteArray) (h0 : 0 < s.size) : s.toList.isEmpty = false := by
  rw [ByteArray.toList_eq]
  cases h : s.data.toList with
  | nil =>
    have : s.data.toList.length = 0 := by rw [h]; rfl
    rw [Array.length_toList] at this
    have hs : s.size = s.data.size := rfl
    omega
  | cons a l => rfl
set_option maxHeartbeats 400000 in
theorem readStringRef_any (s : ByteArray) (w : World) (hs : s.size ≤ 2000) (h0 : 0 < s.size) (h34 : bt s 0 = 34)
   (hpt : ∀ p : Int, 0 ≤ p → p < s.size → spec_Point.f 12 s p = some (ptS s p) ∧ ((ptS s p).2 = 0 ∨ 1 ≤ (ptS s p).2 ∧ (ptS s p).2 ≤ 4 ∧ p + (ptS s p).2 ≤ s.size)) :
    Calls Tryz.prog 11 #[.string s] w fun e w' => e = .returned (.tuple #[val24 (strRef s).tok, .bool (strRef s).ok, .bool (!(strRef s).unsure)]) ∧ Below w.heap.size w w' := by
  have HPT := Aside0.mk hpt
  clear hpt
  obtain ⟨y, hy⟩ : ∃ y, y = strRef s := ⟨_, rfl⟩
  rw [← hy]
  have HY := Aside0.mk hy
  clear hy
  have hx := bt_at s 0
  rw [h34] at hx
  have hne := ne_empty s h0
  have hx0 : ((s[0]'h0).toNat : Int) = 34 := hx h0
  have hxb : (((s[0]'h0).toNat : Int) == 34) = true := by rw [hx0]; rfl
  clear h34
  clear hx hx0
  go_enter Tryz.func11, Tryz.ntmps11
  go_wp2_with fail
  refine (only_any s _ hs HPT.out).mono ?_
  rw [← HY.out]
  rintro e w1 ⟨rfl, h2⟩
  have e0 : w1.heap[w.heap.size]? = some (.cells #[.int .i64 0, .string { data := #[] }, .int .i64 0, .int .i64 0] 24 (0, 0)) := by
    rw [h2.block _ (by simp)]
    exact heap_alloc_new _ _
  have HBB := Aside0.mk ((below_alloc (Below.refl _ _) _).trans (h2.mono (by simp)))
  clear h2
  have d0 := (blk_cell e0 0).trans rfl
  have d1 := (blk_cell e0 1).trans rfl
  have d2 := (blk_cell e0 2).trans rfl
  have d3 := (blk_cell e0 3).trans rfl
  have f0 := fun j => blk_frozen e0 j
  have E0 := Aside0.mk e0
  clear e0
  obtain ⟨t, ht⟩ : ∃ t, t = y.tok := ⟨_, rfl⟩
  rw [← ht]
  have HT := Aside0.mk ht
  clear ht
  go_wp2_with fail
  have e4 := blk_set (blk_set (blk_set (blk_set E0.out 0 (.int .i64 t.f0)) 1 (.string t.f1)) 2 (.int .i64 t.f2)) 3 (.int .i64 t.f3)
  have q0 := (blk_cell e4 0).trans rfl
  have q1 := (blk_cell e4 1).trans rfl
  have q2 := (blk_cell e4 2).trans rfl
  have q3 := (blk_cell e4 3).trans rfl
  refine bodyPost_ret (v := .tuple #[.agg #[.int .i64 t.f0, .string t.f1, .int .i64 t.f2, .int .i64 t.f3], .bool y.ok, .bool !y.unsure]) (by simp [results, Tryz.results11, go_sem, q0, q1, q2, q3]) rfl ⟨?_, ?_⟩
  · rw [← HT.out]
  · exact (((HBB.out.setCell (Nat.le_refl _) _).setCell (Nat.le_refl _) _).setCell (Nat.le_refl _) _).setCell (Nat.le_refl _) _
end Go.Proofs.YtbobbognjmofdaaGreatDoor.Lex
