/-
  FnReadString: the doors ReadString and the law itself, walked.
-/
import Derived.Test.YtbobbognjmofdaaGreatDoorLexStr
import Derived.Test.YtbobbognjmofdaaGreatDoorLexShort
namespace Go.Proofs.YtbobbognjmofdaaGreatDoor.Lex
open Go.RowKit Go.Proofs.YtbobbognjmofdaaGreatDoorW.PrintWords Go.Proofs.YtbobbognjmofdaaGreatDoorW.PrintLast Go.Proofs.YtbobbognjmofdaaGreatDoorW.PrintMore
open Go.Proofs.YtbobbognjmofdaaGreatDoor.Ptext
set_option linter.unusedVariables false
set_option linter.unusedSimpArgs false
theorem src_bytes (w : World) (s : ByteArray) (hs : s.size ≤ 2000) (hT : Lib.Utf8Tabs 1 2 w) : Src (Lib.bytesWorld w 5 s) w.heap.size (grownCap w s.size 0 5) s :=
  ⟨Kd.C_of_reads (enc := Value.int .u8) (d := (0 : Int)) (bytes_reads w 5 s (by omega)), grownCap_ge w s.size 0 5, by rw [Lib.bytesWorld_size]; omega, tabs_below hT (bytes_below (Below.refl _ _) (Nat.le_refl _) 5 s)⟩
set_option maxHeartbeats 400000 in
theorem doorReadString_any (s : ByteArray) (R : Option (Int × ByteArray)) (w : World) (hs : s.size ≤ 2000) (h0 : 0 < s.size) (hT : Lib.Utf8Tabs 1 2 w)
    (hR : txt s (s.size + 1) 1 ⟨#[]⟩ false = (R, false)) :
    Calls Tryz.prog 34 #[.string s] w fun e w' => Told e (strTok 0 R) ∧ Below w.heap.size w w' := by
  have HT := Aside0.mk hT
  have HR := Aside0.mk hR
  clear hT hR
  obtain ⟨T, hT⟩ : ∃ T, T = strTok 0 R := ⟨_, rfl⟩
  rw [← hT]
  have HTT := Aside0.mk hT
  clear hT
  have kb := fun W => print_bytes (P := Tryz.prog) 9 74 5 Tryz.underlying9 Tryz.underlying74 Tryz.underlying5 s W
  go_enter Tryz.func34, Tryz.ntmps34
  go_wp2_with fail
  obtain ⟨W0, hW0⟩ : ∃ W0, W0 = w.alloc (.cells #[.int .i64 0, .int .i64 0, .int .i64 0, .string ⟨#[]⟩] 58) := ⟨_, rfl⟩
  rw [← hW0]
  have hz : W0.heap.size = w.heap.size + 1 := by rw [hW0]; simp
  have hb : Below w.heap.size w W0 := by rw [hW0]; exact below_alloc (Below.refl _ _) _
  have he : W0.heap[w.heap.size]? = some (.cells #[.int .i64 0, .int .i64 0, .int .i64 0, .string ⟨#[]⟩] 58 (0, 0)) := by rw [hW0]; exact heap_alloc_new _ _
  clear hW0
  have hS := src_bytes W0 s hs (tabs_below HT.out hb)
  rw [hz] at hS
  have hB2 : Below (w.heap.size + 1) W0 (Lib.bytesWorld W0 5 s) := by
    have := bytes_below (Below.refl W0.heap.size W0) (Nat.le_refl _) 5 s
    rwa [hz] at this
  refine (readString_any s (Lib.bytesWorld W0 5 s).heap.size (w.heap.size + 1) (grownCap W0 s.size 0 5) 0 R _ (hS.below (below_alloc (Below.refl _ _) _)) (by rw [World.cell?_alloc_new]; rfl) hs (by omega) (by omega) HR.out).mono ?_
  rw [← HTT.out]
  rintro e w2 ⟨he2, hb2⟩
  have hX : Below (w.heap.size + 1) W0 w2 := (hB2.alloc (by have := hB2.size; omega) _).trans (hb2.mono (by have := hB2.size; simp; omega))
  have e0 := (hX.block w.heap.size (by omega)).trans he
  have HB := Aside0.mk (hb.trans (hX.mono (by omega)))
  clear hX hB2 hb2 hS hb he
  have d0 := (blk_cell e0 0).trans rfl
  have d1 := (blk_cell e0 1).trans rfl
  have d2 := (blk_cell e0 2).trans rfl
  have d3 := (blk_cell e0 3).trans rfl
  have f0 := fun j => blk_frozen e0 j
  have E0 := Aside0.mk e0
  clear e0
  cases T with
  | none =>
    obtain ⟨q, rfl⟩ := he2
    go_wp2_with fail
    obtain ⟨q0, q1, q2, q3⟩ := res4 E0.out (.int .i64 0) (.int .i64 0) (.int .i64 0) (.string ⟨#[]⟩)
    refine bodyPost_ret (v := .tuple #[tk 0 0 0 ⟨#[]⟩, .iface 182 (.pointer (some ⟨q, 0, none⟩))]) (by simp [results, Tryz.results34, go_sem, q0, q1, q2, q3]) rfl ⟨?_, ?_⟩
    · exact ⟨q, rfl⟩
    · exact set4_below HB.out (Nat.le_refl _) _ _ _ _
  | some t =>
    obtain ⟨t0, t1, t2, t3⟩ := t
    obtain rfl : e = .returned (.tuple #[tk t0 t1 t2 t3, .nilIface]) := he2
    go_wp2_with fail
    obtain ⟨q0, q1, q2, q3⟩ := res4 E0.out (.int .i64 t0) (.int .i64 t1) (.int .i64 t2) (.string t3)
    refine bodyPost_ret (v := .tuple #[tk t0 t1 t2 t3, .nilIface]) (by simp [results, Tryz.results34, go_sem, q0, q1, q2, q3]) rfl ⟨?_, ?_⟩
    · exact rfl
    · exact set4_below HB.out (Nat.le_refl _) _ _ _ _
theorem res4a {W : World} {g T : Nat} {a0 a1 a2 a3 : Value} (h : W.heap[g]? = some (.cells #[a0, a1, a2, a3] T (0, 0))) (x0 x1 x2 x3 : Value) (o : Obj) :
    (((((W.setCell ⟨g, 0, none⟩ x0).setCell ⟨g, 1, none⟩ x1).setCell ⟨g, 2, none⟩ x2).setCell ⟨g, 3, none⟩ x3).alloc o).cell? ⟨g, 0, none⟩ = some x0 ∧ (((((W.setCell ⟨g, 0, none⟩ x0).setCell ⟨g, 1, none⟩ x1).setCell ⟨g, 2, none⟩ x2).setCell ⟨g, 3, none⟩ x3).alloc o).cell? ⟨g, 1, none⟩ = some x1 ∧
    (((((W.setCell ⟨g, 0, none⟩ x0).setCell ⟨g, 1, none⟩ x1).setCell ⟨g, 2, none⟩ x2).setCell ⟨g, 3, none⟩ x3).alloc o).cell? ⟨g, 2, none⟩ = some x2 ∧ (((((W.setCell ⟨g, 0, none⟩ x0).setCell ⟨g, 1, none⟩ x1).setCell ⟨g, 2, none⟩ x2).setCell ⟨g, 3, none⟩ x3).alloc o).cell? ⟨g, 3, none⟩ = some x3 := by
  have e4 := blk_alloc (blk_set (blk_set (blk_set (blk_set h 0 x0) 1 x1) 2 x2) 3 x3) o
  exact ⟨(blk_cell e4 0).trans rfl, (blk_cell e4 1).trans rfl, (blk_cell e4 2).trans rfl, (blk_cell e4 3).trans rfl⟩
/-- What the thin package hands back. -/
def tokOf (T : Option (Int × Int × Int × ByteArray)) : S24 := match T with | some q => ⟨q.1, q.2.2.2, q.2.1, q.2.2.1⟩ | none => ⟨0, ⟨#[]⟩, 0, 0⟩
set_option maxHeartbeats 400000 in
theorem implReadString_any (s : ByteArray) (R : Option (Int × ByteArray)) (w : World) (hs : s.size ≤ 2000) (h0 : 0 < s.size) (h34 : bt s 0 = 34) (hT : Lib.Utf8Tabs 1 2 w)
    (hR : txt s (s.size + 1) 1 ⟨#[]⟩ false = (R, false)) :
    Calls Tryz.prog 12 #[.string s] w fun e w' => e = .returned (.tuple #[val24 (tokOf (strTok 0 R)), .bool R.isSome]) ∧ Below w.heap.size w w' := by
  have HT := Aside0.mk hT
  have HR := Aside0.mk hR
  clear hT hR
  have hx := bt_at s 0
  rw [h34] at hx
  have hne := ne_empty s h0
  have hx0 : ((s[0]'h0).toNat : Int) = 34 := hx h0
  have hxb : (((s[0]'h0).toNat : Int) != 34) = false := by rw [hx0]; rfl
  clear hx hx0 h34
  obtain ⟨T, hTT⟩ : ∃ T, T = strTok 0 R := ⟨_, rfl⟩
  have hso : R.isSome = T.isSome := by rw [hTT]; cases R <;> rfl
  rw [← hTT, hso]
  have HTT := Aside0.mk hTT
  clear hTT hso
  go_enter Tryz.func12, Tryz.ntmps12
  go_wp2_with fail
  refine (doorReadString_any s R _ hs h0 (tabs_below HT.out (below_alloc (Below.refl _ _) _)) HR.out).mono ?_
  rw [← HTT.out]
  rintro e w2 ⟨he2, hb2⟩
  have e0 : w2.heap[w.heap.size]? = some (.cells #[.int .i64 0, .string ⟨#[]⟩, .int .i64 0, .int .i64 0] 24 (0, 0)) := by
    rw [hb2.block _ (by simp)]; exact heap_alloc_new _ _
  have hz : w.heap.size < w2.heap.size := by have := hb2.size; simp at this; omega
  have HB := Aside0.mk ((below_alloc (Below.refl _ _) _).trans (hb2.mono (by simp)))
  clear hb2
  have d0 := (blk_cell e0 0).trans rfl
  have d1 := (blk_cell e0 1).trans rfl
  have d2 := (blk_cell e0 2).trans rfl
  have d3 := (blk_cell e0 3).trans rfl
  have f0 := fun j => blk_frozen e0 j
  have E0 := Aside0.mk e0
  clear e0
  cases T with
  | none =>
    obtain ⟨q, rfl⟩ := he2
    go_wp2_with fail
    obtain ⟨q0, q1, q2, q3⟩ := res4a E0.out (.int .i64 0) (.string ⟨#[]⟩) (.int .i64 0) (.int .i64 0) (.cells #[.int .i64 0, .int .i64 0, .int .i64 0, .string ⟨#[]⟩] 58)
    refine bodyPost_ret (v := .tuple #[.agg #[.int .i64 0, .string ⟨#[]⟩, .int .i64 0, .int .i64 0], .bool false]) (by simp [results, Tryz.results12, go_sem, q0, q1, q2, q3]) rfl ⟨rfl, ?_⟩
    exact (set4_below HB.out (Nat.le_refl _) _ _ _ _).alloc (by simp; omega) _
  | some t =>
    obtain ⟨t0, t1, t2, t3⟩ := t
    obtain rfl : e = .returned (.tuple #[tk t0 t1 t2 t3, .nilIface]) := he2
    go_wp2_with fail
    refine (PFnReadString.impl_token.calls t0 t1 t2 t3 t0 t3 t1 t2 _ rfl).mono ?_
    rintro e w3 ⟨rfl, hb3⟩
    have hX : Below w2.heap.size w2 w3 := (below_alloc (Below.refl _ _) _).trans (hb3.mono (by simp))
    have e0 := (hX.block w.heap.size hz).trans E0.out
    have HB3 := Aside0.mk (HB.out.trans (hX.mono (by omega)))
    clear hX hb3 d0 d1 d2 d3 f0
    have d0 := (blk_cell e0 0).trans rfl
    have d1 := (blk_cell e0 1).trans rfl
    have d2 := (blk_cell e0 2).trans rfl
    have d3 := (blk_cell e0 3).trans rfl
    have f0 := fun j => blk_frozen e0 j
    have E3 := Aside0.mk e0
    clear e0
    go_wp2_with fail
    obtain ⟨q0, q1, q2, q3⟩ := res4 E3.out (.int .i64 t0) (.string t3) (.int .i64 t1) (.int .i64 t2)
    refine bodyPost_ret (v := .tuple #[.agg #[.int .i64 t0, .string t3, .int .i64 t1, .int .i64 t2], .bool true]) (by simp [results, Tryz.results12, go_sem, q0, q1, q2, q3]) rfl ⟨rfl, ?_⟩
    exact set4_below HB3.out (Nat.le_refl _) _ _ _ _
theorem after_unsure (x : LS) (r : Option (Int × ByteArray) × Bool) : (x.after r).unsure = r.2 := by
  unfold LS.after; split <;> rfl
theorem ref_same (s : ByteArray) (R : Option (Int × ByteArray)) (h : txt s (s.size + 1) 1 ⟨#[]⟩ false = (R, false)) : tokOf (strTok 0 R) = (strRef s).tok ∧ R.isSome = (strRef s).ok := by
  unfold strRef
  rw [h]
  cases R with
  | none => exact ⟨rfl, rfl⟩
  | some q => exact ⟨rfl, rfl⟩
theorem told_same (t : S24) (b : Bool) : PFnReadString.laws_told9.f t.f0 t.f1 t.f2 t.f3 b t.f0 t.f1 t.f2 t.f3 b = some true := by
  unfold PFnReadString.laws_told9.f
  cases b <;> simp
set_option maxHeartbeats 1000000 in
theorem law_any (s : ByteArray) (w : World) (hT : Lib.Utf8Tabs 1 2 w) :
    Calls Tryz.prog 3 #[.string s] w fun e w' => e = .returned (.bool true) ∧ Below w.heap.size w w' := by
  have HT := Aside0.mk hT
  clear hT
  by_cases hbig : (s.size : Int) ≤ 2147483647
  · obtain ⟨bb, hbb, hb2⟩ := PFnReadString.short_tells s
    have HBB := Aside0.mk hbb
    clear hbb
    go_enter Tryz.func3, Tryz.ntmps3
    go_wp2_with fail
    refine (PFnReadString.laws_short9.calls 100100 s bb _ HBB.out).mono ?_
    rintro e w1 ⟨rfl, ⟨m, rfl⟩⟩
    have hB : Below w.heap.size w (w.drewN m) := pw_below_drewN (Below.refl _ _) m
    have HB := Aside0.mk hB
    clear hB
    cases bb with
    | false =>
      go_wp2_with fail
      go_ret
      exact ⟨rfl, HB.out⟩
    | true =>
      have hs : s.size ≤ 2000 := hb2 rfl
      clear hb2
      by_cases h0 : 0 < s.size
      · have hne := ne_empty s h0
        have hx := bt_at s 0 h0
        have hx0 : ((s[0]'h0).toNat : Int) = bt s 0 := hx
        by_cases h34 : bt s 0 = 34
        · have hxb : (((s[0]'h0).toNat : Int) != 34) = false := by rw [hx0, h34]; rfl
          clear hx hx0
          go_wp2_with fail
          refine (readStringRef_any s _ hs h0 h34 (fun p h1 h2 => pt_tells s (by omega) p h1 h2)).mono ?_
          rintro e w2 ⟨rfl, hb2⟩
          have HB2 := Aside0.mk (HB.out.trans hb2)
          clear hb2
          cases hu : (strRef s).unsure with
          | true =>
            go_wp2_with fail
            go_ret
            exact ⟨rfl, HB2.out.alloc HB2.out.size _⟩
          | false =>
            obtain ⟨R, hR⟩ : ∃ R, txt s (s.size + 1) 1 ⟨#[]⟩ false = (R, false) := by
              have h := after_unsure ⟨s, 0, [], false, false⟩ (txt s (s.size + 1) 1 ⟨#[]⟩ false)
              rw [show LS.after ⟨s, 0, [], false, false⟩ (txt s (s.size + 1) 1 ⟨#[]⟩ false) = strRef s from rfl, hu] at h
              exact ⟨(txt s (s.size + 1) 1 ⟨#[]⟩ false).1, Prod.ext rfl h.symm⟩
            obtain ⟨hq1, hq2⟩ := ref_same s R hR
            rw [← hq1, ← hq2]
            have HR := Aside0.mk hR
            clear hR hu hq1 hq2
            obtain ⟨t, ht⟩ : ∃ t, t = tokOf (strTok 0 R) := ⟨_, rfl⟩
            obtain ⟨ok, hok⟩ : ∃ ok, ok = R.isSome := ⟨_, rfl⟩
            rw [← ht, ← hok]
            have HTT := Aside0.mk ht
            have HOK := Aside0.mk hok
            clear ht hok
            go_wp2_with fail
            refine (implReadString_any s R _ hs h0 h34 (tabs_below HT.out (HB2.out.alloc HB2.out.size _)) HR.out).mono ?_
            rw [← HTT.out, ← HOK.out]
            rintro e w3 ⟨rfl, hb3⟩
            have e0 : w3.heap[w2.heap.size]? = some (.cells #[.int .i64 t.f0, .string t.f1, .int .i64 t.f2, .int .i64 t.f3] 24 (0, 0)) := by
              rw [hb3.block _ (by simp)]; exact heap_alloc_new _ _
            have HB3 := Aside0.mk ((HB2.out.alloc HB2.out.size _).trans (hb3.mono (by have := HB2.out.size; simp; omega)))
            have hz : w2.heap.size < w3.heap.size := by have := hb3.size; simp at this; omega
            clear hb3
            have d0 := (blk_cell e0 0).trans rfl
            have d1 := (blk_cell e0 1).trans rfl
            have d2 := (blk_cell e0 2).trans rfl
            have d3 := (blk_cell e0 3).trans rfl
            clear e0
            go_wp2_with fail
            refine (PFnReadString.laws_told9.calls t.f0 t.f1 t.f2 t.f3 ok t.f0 t.f1 t.f2 t.f3 ok true _ (told_same t ok)).mono ?_
            rintro e w4 ⟨rfl, hb4⟩
            have HB4 := Aside0.mk ((HB3.out.alloc HB3.out.size _).trans (hb4.mono (by have := HB3.out.size; simp; omega)))
            clear hb4
            go_wp2_with fail
            go_ret
            exact ⟨rfl, HB4.out⟩
        · have hxb : (((s[0]'h0).toNat : Int) != 34) = true := by rw [hx0]; simp [h34]
          clear hx hx0
          go_wp2_with fail
          go_ret
          exact ⟨rfl, HB.out⟩
      · have hsz : s = ⟨#[]⟩ := by
          apply ByteArray.ext
          apply Array.eq_empty_of_size_eq_zero
          have : s.size = s.data.size := rfl
          omega
        subst hsz
        go_wp2_with fail
        go_ret
        exact ⟨rfl, HB.out⟩
  · go_enter Tryz.func3, Tryz.ntmps3
    go_wp2_with fail
    all_goals
      go_ret
      exact ⟨rfl, Below.refl _ _⟩
end Go.Proofs.YtbobbognjmofdaaGreatDoor.Lex
