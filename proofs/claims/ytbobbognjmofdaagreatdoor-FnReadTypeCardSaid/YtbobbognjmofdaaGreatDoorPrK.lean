/-
  The package's parser begun over a text, and its door to types, walked.
-/
import Derived.Test.YtbobbognjmofdaaGreatDoorPrJ
namespace Go.Proofs.YtbobbognjmofdaaGreatDoor.Lex
open Go.RowKit Go.Proofs.YtbobbognjmofdaaGreatDoorW.PrintWords Go.Proofs.YtbobbognjmofdaaGreatDoorW.PrintLast Go.Proofs.YtbobbognjmofdaaGreatDoorW.PrintMore
open Go.Proofs.YtbobbognjmofdaaGreatDoor.Ptext
set_option linter.unusedVariables false
set_option linter.unusedSimpArgs false
set_option maxHeartbeats 2000000 in
/-- A parser over a source whose first token is there. -/
theorem makeParser_any (s : ByteArray) (g b c K : Nat) (t : S24) (w : World) (hS : Src w b c s) (hg : w.cell? ⟨g, 0, none⟩ = some (.slice (some ⟨b, 0, none⟩) s.size c)) (hs : s.size ≤ 2000) (hK : (s.size : Int) < K) (hN : nxt s K 0 false = (some t, false)) :
    Calls Tryz.prog 82 #[.pointer (some ⟨g, 0, none⟩), .agg #[.bool false, .bool false]] w fun e w' => ∃ P pb sb, e = .returned (.tuple #[.pointer (some ⟨P, 0, none⟩), .nilIface]) ∧ Pk ⟨P, pb, sb, g, b, c, s⟩ w w' t 0 := by
  have HS := Aside0.mk hS
  have HG := Aside0.mk hg
  have HN := Aside0.mk hN
  clear hS hg hN
  go_enter Tryz.func82, Tryz.ntmps82
  go_wp2_with fail
  obtain ⟨Wb, hWb⟩ : ∃ Wb, Wb = w.alloc (.cells #[.bool false, .bool false] 99) := ⟨_, rfl⟩
  have hBb : Below w.heap.size w Wb := by rw [hWb]; exact below_alloc (Below.refl _ _) _
  have hEb : Wb.heap[w.heap.size]? = some (.cells #[.bool false, .bool false] 99 (0, 0)) := by rw [hWb]; exact blk_new _ _
  rw [← hWb]
  clear hWb
  have HBb := Aside0.mk hBb
  have HEb := Aside0.mk hEb
  clear hBb hEb
  refine (lexLex_any g Wb).mono ?_
  rintro e w2 ⟨rfl, hs2, hp2, hb2, hz2⟩
  have HB2 := Aside0.mk (HBb.out.trans (hb2.mono HBb.out.size))
  have HE2 := Aside0.mk (blk_below HEb.out hb2)
  have hsb : Wb.heap.size ≠ Wb.heap.size + 1 := by omega
  have hwb : w.heap.size < Wb.heap.size := blk_lt HEb.out
  have HSB := Aside0.mk hs2
  have HPB := Aside0.mk hp2
  have HL := Aside0.mk (lexer_any s g b c Wb.heap.size (Wb.heap.size + 1) K 0 0 0 (some t) w2 rfl (HS.out.below HB2.out) (PFnReadString.old_cell HB2.out HG.out) ((blk_cell hs2 0).trans rfl) hp2 hs (Int.le_refl _) (by omega) (by omega) HN.out)
  clear hs2 hp2 hb2 hz2
  go_wp2_with fail
  refine HL.out.mono ?_
  rintro e w3 ⟨he3, hm3⟩
  obtain ⟨t0, t1, t2, t3⟩ := t
  obtain rfl : e = .returned (.tuple #[tk t0 t2 t3 t1, .nilIface]) := he3
  have hm : Below w2.heap.size (w2.setCell ⟨Wb.heap.size + 1, 0, none⟩ (.int .i64 t3)) w3 := hm3
  have hkeep : ∀ k T cs, w2.heap[k]? = some (.cells cs T (0, 0)) → k ≠ Wb.heap.size + 1 → w3.heap[k]? = some (.cells cs T (0, 0)) := fun k T cs h1 h2 => ((hm.block k (blk_lt h1)).trans (Below.heap_setCell w2 ⟨Wb.heap.size + 1, 0, none⟩ _ k h2)).trans h1
  have hopt := hkeep _ _ _ HE2.out (by omega)
  have o0 := (blk_cell hopt 0).trans rfl
  have o1 := (blk_cell hopt 1).trans rfl
  have HSB3 := Aside0.mk (hkeep _ _ _ HSB.out hsb)
  have HPB3 := Aside0.mk ((hm.block _ (blk_lt HPB.out)).trans (blk_set HPB.out 0 _))
  have HB3 : Aside0 (Below w.heap.size w w3) := ⟨(HB2.out.setCell (p := ⟨Wb.heap.size + 1, 0, none⟩) (by show w.heap.size ≤ Wb.heap.size + 1; omega) _).trans (hm.mono HB2.out.size)⟩
  have hl3 := blk_lt hopt
  clear hm3 hm hkeep hopt
  go_wp2_with fail
  go_ret2
  have hB : Below w.heap.size w ((w3.alloc (.cells #[.int .i64 t0, .int .i64 t2, .int .i64 t3, .string t1] 58)).alloc (.cells #[.func (.func 67) #[] #[.pointer (some ⟨Wb.heap.size + 1, 0, none⟩), .pointer (some ⟨Wb.heap.size, 0, none⟩)], .pointer (some ⟨g, 0, none⟩), .bool false, .bool false, .int .i64 0, .int .i64 t0, .int .i64 t2, .int .i64 t3, .string t1] 125)) := (HB3.out.alloc HB3.out.size _).alloc (by have := HB3.out.size; simp; omega) _
  refine ⟨_, Wb.heap.size + 1, Wb.heap.size, rfl, ⟨?_, blk_alloc (blk_alloc HPB3.out _) _, blk_alloc (blk_alloc HSB3.out _) _, hB, ?_, ?_, ?_, HS.out, HG.out, hs⟩⟩
  · exact blk_new2 _ _ _
  · show w.heap.size ≤ w3.heap.size + 1; have := HB3.out.size; omega
  · show w.heap.size ≤ Wb.heap.size + 1; omega
  · show w.heap.size ≤ Wb.heap.size; omega
set_option maxHeartbeats 1000000 in
theorem begin_any (s : ByteArray) (K : Nat) (t : S24) (w : World) (hT : Lib.Utf8Tabs 1 2 w) (hs : s.size ≤ 2000) (hK : (s.size : Int) < K) (hN : nxt s K 0 false = (some t, false)) :
    Calls Tryz.prog 73 #[.string s] w fun e w' => ∃ (E : PE) (W1 : World), E.s = s ∧ e = .returned (.tuple #[.pointer (some ⟨E.P, 0, none⟩), .nilIface]) ∧ Pk E W1 w' t 0 ∧ Below w.heap.size w w' ∧ w.heap.size ≤ W1.heap.size := by
  have HT := Aside0.mk hT
  have HN := Aside0.mk hN
  clear hT hN
  have kb := fun W => print_bytes (P := Tryz.prog) 9 74 5 Tryz.underlying9 Tryz.underlying74 Tryz.underlying5 s W
  go_enter Tryz.func73, Tryz.ntmps73
  go_wp2_with fail
  have hS := src_bytes w s hs HT.out
  have hB0 : Below w.heap.size w (Lib.bytesWorld w 5 s) := bytes_below (Below.refl w.heap.size w) (Nat.le_refl _) 5 s
  obtain ⟨W0, hW0⟩ : ∃ W0, W0 = Lib.bytesWorld w 5 s := ⟨_, rfl⟩
  rw [← hW0] at hS hB0 ⊢
  clear hW0
  have HB0 := Aside0.mk hB0
  obtain ⟨W1, hW1⟩ : ∃ W1, W1 = W0.alloc (.cells #[.slice (some ⟨w.heap.size, 0, none⟩) s.size (grownCap w s.size 0 5), .string ⟨#[]⟩] 76) := ⟨_, rfl⟩
  have hN1 : W1.heap[W0.heap.size]? = some (.cells #[.slice (some ⟨w.heap.size, 0, none⟩) s.size (grownCap w s.size 0 5), .string ⟨#[]⟩] 76 (0, 0)) := by rw [hW1]; exact blk_new _ _
  have hB1 : Below W0.heap.size W0 W1 := by rw [hW1]; exact below_alloc (Below.refl _ _) _
  rw [← hW1]
  clear hW1
  have HS0 := Aside0.mk hS
  have HB1 := Aside0.mk hB1
  clear hS hB0 hB1
  refine (newSource_any W0.heap.size _ W1 hN1).mono ?_
  rintro e w1 ⟨rfl, hc1, hb1, hz1⟩
  have hBw : Below W0.heap.size W0 w1 := HB1.out.trans hb1
  have HS1 := Aside0.mk (HS0.out.below hBw)
  have HBw := Aside0.mk (HB0.out.trans (hBw.mono HB0.out.size))
  have HC1 := Aside0.mk hc1
  clear hc1 hb1 hz1 hBw hN1
  go_wp2_with fail
  refine (makeParser_any s W0.heap.size w.heap.size (grownCap w s.size 0 5) K t w1 HS1.out HC1.out hs hK HN.out).mono ?_
  rintro e w2 ⟨P, pb, sb, rfl, hp⟩
  have HP := Aside0.mk hp
  clear hp
  go_wp2_with fail
  go_ret2
  exact ⟨⟨P, pb, sb, W0.heap.size, w.heap.size, grownCap w s.size 0 5, s⟩, w1, rfl, rfl, HP.out, HBw.out.trans (HP.out.below.mono HBw.out.size), HBw.out.size⟩
/-- What comes of a type at the beginning of a text. -/
def ReadTy (s : ByteArray) (l : List S24) (bad : Bool) (R : List S50 × PS) (e : Ending) (w' : World) : Prop :=
  (Refd l bad R.2 ∧ ∃ a q, e = .returned (.tuple #[.nilIface, .int .i64 a, .iface 182 (.pointer (some ⟨q, 0, none⟩))])) ∨
  (R.2.bad = false ∧ ∃ (v : Value) (ty : Ty) (t' : S24) (j : Nat), e = .returned (.tuple #[v, .int .i64 t'.f2, .nilIface]) ∧ RepT w' ty v ∧ R.1 = ty.nodes ∧ R.2.at_ = j ∧ At s l bad j t')
def ps0 : PS := ⟨0, 0, 0, false, false⟩
theorem first_some {s : ByteArray} (hs : s.size ≤ 2000) {l : List S24} {bad : Bool} (hR : lexR s = (l, bad, false)) (hu : (typd 62 l ps0).2.unsure = false) : ∃ t, nxt s (s.size + 1) 0 false = (some t, false) ∧ At s l bad 0 t := by
  obtain ⟨N, hN, hh⟩ := at_first (fun p h1 h2 => (pt_tells s (by omega) p h1 h2).2) hR
  rcases hh with ⟨rfl, -, hl⟩ | ⟨t, rfl, hat⟩
  · exfalso
    obtain ⟨_, h2⟩ := typd_sure (x := ps0) rfl hu
    have hk1 : kd l 0 = 1 := kd_end (by omega)
    rcases h2 with ⟨h2, -⟩ | ⟨h2, -⟩
    · have h2 : kd l 0 = 10 := h2; omega
    · have h2 : kd l 0 = 15 := h2; omega
  · exact ⟨t, hN, hat⟩
set_option maxHeartbeats 1000000 in
theorem doorReadType_any (s : ByteArray) (l : List S24) (bad : Bool) (w : World) (hT : Lib.Utf8Tabs 1 2 w) (hs : s.size ≤ 2000) (hR : lexR s = (l, bad, false)) (hu : (typd 62 l ps0).2.unsure = false) :
    Calls Tryz.prog 43 #[.string s] w fun e w' => ReadTy s l bad (typd 62 l ps0) e w' ∧ Below w.heap.size w w' := by
  obtain ⟨t, hN, hat⟩ := first_some hs hR hu
  have HBG := Aside0.mk (begin_any s (s.size + 1) t w hT hs (by omega) hN)
  have HPT := Aside0.mk (fun p h1 h2 => (pt_tells s (by omega) p h1 h2).2)
  have HAT := Aside0.mk hat
  have HU := Aside0.mk hu
  obtain ⟨R, hRR⟩ : ∃ R, R = typd 62 l ps0 := ⟨_, rfl⟩
  rw [← hRR]
  have HRR := Aside0.mk hRR
  clear hT hN hat hu hR hRR
  go_enter Tryz.func43, Tryz.ntmps43
  go_wp2_with fail
  refine HBG.out.mono ?_
  rintro e w1 ⟨E, W1, hEs, rfl, hp, hb, hw⟩
  subst hEs
  have HP := Aside0.mk hp
  have HB := Aside0.mk hb
  clear hp hb
  have hPT := parseType_any E W1 l bad HPT.out 62 ps0 0 t w1 0 HP.out HAT.out rfl rfl HU.out (by decide) (by decide)
  rw [← HRR.out] at hPT
  have HPTY := Aside0.mk hPT
  have c6 := (blk_cell HP.out.parser 6).trans rfl
  have HC6 := Aside0.mk c6
  clear hPT c6
  go_wp2_with fail
  refine HPTY.out.mono ?_
  rintro e w2 ⟨h2, ad⟩
  obtain ⟨st, hst⟩ := ad.start _ HC6.out
  have HB2 : Aside0 (Below w.heap.size w w2) := ⟨HB.out.trans (ad.below HB.out.size (Nat.le_trans hw HP.out.bP) (Nat.le_trans hw HP.out.bpb))⟩
  clear ad
  rcases h2 with ⟨href, q, rfl⟩ | ⟨hb3, v, ty, t', pe', j, rfl, hr, hn, ha, hat', hp'⟩
  · have HREF := Aside0.mk href
    clear href
    go_wp2_with fail
    go_region
    all_goals
      go_wp2_with fail
      go_ret3
      exact ⟨.inl ⟨HREF.out, _, q, rfl⟩, pw_below_drewN HB2.out 1⟩
  · have HF := Aside0.mk (And.intro hb3 (And.intro hr (And.intro hn (And.intro ha hat'))))
    have c6' := (blk_cell hp'.parser 6).trans rfl
    clear hb3 hr hn ha hat' hp' hst
    go_wp2_with fail
    go_region
    all_goals
      go_wp2_with fail
      go_ret3
      exact ⟨.inr ⟨HF.out.1, v, ty, t', j, rfl, HF.out.2.1.keep (KeepT.of_below (below_drew (Below.refl _ _))), HF.out.2.2.1, HF.out.2.2.2.1, HF.out.2.2.2.2⟩, pw_below_drewN HB2.out 1⟩
end Go.Proofs.YtbobbognjmofdaaGreatDoor.Lex
