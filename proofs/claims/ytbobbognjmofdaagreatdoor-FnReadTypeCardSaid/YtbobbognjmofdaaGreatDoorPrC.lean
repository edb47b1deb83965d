/-
  The reference's types: plain words and the walk.
-/
import Derived.Test.YtbobbognjmofdaaGreatDoorPrB
namespace Go.Proofs.YtbobbognjmofdaaGreatDoor.Lex
open Go.RowKit Go.Proofs.YtbobbognjmofdaaGreatDoorW.PrintWords Go.Proofs.YtbobbognjmofdaaGreatDoorW.PrintLast Go.Proofs.YtbobbognjmofdaaGreatDoorW.PrintMore
open Go.Proofs.YtbobbognjmofdaaGreatDoor.Ptext
set_option linter.unusedVariables false
set_option linter.unusedSimpArgs false
def PS.noType (l : List S24) (x : PS) : PS := if kd l x.at_ ≠ 10 ∧ kd l x.at_ ≠ 15 then { x with unsure := true } else x
def PS.noEnd (l : List S24) (x : PS) (k : Int) : PS := { x with unsure := x.unsure || (kd l x.at_ != k) }
def nd (k : Int) (name : ByteArray) : S50 := ⟨k, name, ⟨#[]⟩, ⟨#[]⟩, 0, 0⟩
def typB (l : List S24) (q : List S50 × PS) : List S50 × PS := (made (nd 21 ⟨#[]⟩) [q.1], (q.2.noEnd l 11).musted l 11)
def typN (l : List S24) (x : PS) : List S50 × PS := (made (nd 20 (x.named l).1) [], (x.named l).2)
def typE (l : List S24) (r : List S50 × PS) : List S50 × PS := (if r.2.takes l 2 = true then made (nd 22 ⟨#[]⟩) [r.1] else r.1, (r.2.took l 2).left)
/-- What the reference reads as a type. -/
def typd : Nat → List S24 → PS → List S50 × PS
  | 0, _, x => ([], x)
  | n + 1, l, x =>
    if x.entered.bad = true then ([], x.entered)
    else typE l (if (x.entered.noType l).takes l 10 = true then typB l (typd n l ((x.entered.noType l).took l 10)) else typN l (x.entered.noType l))
theorem made_len (n : S50) (xss : List (List S50)) : (made n xss).length = xss.flatten.length + 1 := rfl
theorem PS.ok.at {l : List S24} {x y : PS} (h : x.ok l) (e : y.at_ = x.at_) : y.ok l := ⟨by rw [e]; exact h.a0, by rw [e]; exact h.a1, h.ll⟩
theorem PS.failed_at (x : PS) : x.failed.at_ = x.at_ := by unfold PS.failed; split <;> rfl
theorem PS.failed_deep (x : PS) : x.failed.deep = x.deep := by unfold PS.failed; split <;> rfl
theorem PS.ok.failed {l : List S24} {x : PS} (h : x.ok l) : x.failed.ok l := h.at x.failed_at
theorem PS.ok.took {l : List S24} {x : PS} (h : x.ok l) {k : Int} (hk : k ≠ 1) : (x.took l k).ok l := by
  unfold PS.took
  cases ht : x.takes l k with
  | false => simpa using h
  | true =>
    have := PS.takes_lt ht hk
    have := h.a0
    simp only [if_true]
    exact ⟨by show 0 ≤ x.at_ + 1; omega, by show x.at_ + 1 ≤ _; omega, h.ll⟩
theorem PS.ok.musted {l : List S24} {x : PS} (h : x.ok l) {k : Int} (hk : k ≠ 1) : (x.musted l k).ok l := by
  have ht := h.took hk
  unfold PS.took at ht
  unfold PS.musted
  cases hx : x.takes l k with
  | false => simpa using h.failed
  | true => rw [hx] at ht; exact ht
theorem PS.ok.named {l : List S24} {x : PS} (h : x.ok l) : (x.named l).2.ok l := by
  have ht := h.took (k := 15) (by decide)
  unfold PS.took at ht
  unfold PS.named
  cases hx : x.takes l 15 with
  | false => simpa using h.failed
  | true => rw [hx] at ht; exact ht
theorem PS.ok.entered {l : List S24} {x : PS} (h : x.ok l) : x.entered.ok l := by
  unfold PS.entered
  split
  · exact PS.ok.failed (h.at rfl)
  · exact h.at rfl
theorem PS.ok.noType {l : List S24} {x : PS} (h : x.ok l) : (x.noType l).ok l := by
  unfold PS.noType
  split
  · exact h.at rfl
  · exact h
theorem PS.took_deep (l : List S24) (x : PS) (k : Int) : (x.took l k).deep = x.deep := by unfold PS.took; split <;> rfl
theorem PS.musted_deep (l : List S24) (x : PS) (k : Int) : (x.musted l k).deep = x.deep := by unfold PS.musted; split; rfl; exact PS.failed_deep x
theorem PS.named_deep (l : List S24) (x : PS) : (x.named l).2.deep = x.deep := by unfold PS.named; split; rfl; exact PS.failed_deep x
theorem PS.noType_deep (l : List S24) (x : PS) : (x.noType l).deep = x.deep := by unfold PS.noType; split <;> rfl
theorem PS.entered_deep (x : PS) : x.entered.deep = x.deep + 1 := by unfold PS.entered; split; rw [PS.failed_deep]; rfl
/-- The state behind a type, and how many nodes it has. -/
theorem typd_keeps (l : List S24) : ∀ (n : Nat) (x : PS), x.ok l → (typd n l x).2.ok l ∧ x.deep ≤ (typd n l x).2.deep ∧ (typd n l x).2.deep ≤ x.deep + n ∧ (typd n l x).1.length ≤ 2 * n
  | 0, x, h => ⟨h, Int.le_refl _, by simp [typd], by simp [typd]⟩
  | n + 1, x, h => by
    rw [typd]
    split
    · refine ⟨h.entered, ?_, ?_, by simp⟩ <;> (dsimp only; rw [PS.entered_deep]; omega)
    · have hx : (x.entered.noType l).ok l := h.entered.noType
      have hd : (x.entered.noType l).deep = x.deep + 1 := by rw [PS.noType_deep, PS.entered_deep]
      obtain ⟨y, hy⟩ : ∃ y, y = x.entered.noType l := ⟨_, rfl⟩
      rw [← hy] at hx hd ⊢
      have key : ∀ r : List S50 × PS, r.2.ok l → x.deep + 1 ≤ r.2.deep → r.2.deep ≤ x.deep + 1 + n → r.1.length ≤ 2 * n + 1 → (typE l r).2.ok l ∧ x.deep ≤ (typE l r).2.deep ∧ (typE l r).2.deep ≤ x.deep + (n + 1 : Nat) ∧ (typE l r).1.length ≤ 2 * (n + 1) := by
        intro r r1 r2 r3 r4
        unfold typE PS.left
        refine ⟨(r1.took (k := 2) (by decide)).at rfl, ?_, ?_, ?_⟩
        · show x.deep ≤ (r.2.took l 2).deep - 1; rw [PS.took_deep]; omega
        · show (r.2.took l 2).deep - 1 ≤ _; rw [PS.took_deep]; omega
        · dsimp only
          split
          · rw [made_len]; simp; omega
          · omega
      by_cases ht : y.takes l 10 = true
      · rw [if_pos ht]
        obtain ⟨i1, i2, i3, i4⟩ := typd_keeps l n (y.took l 10) (hx.took (by decide))
        rw [PS.took_deep] at i2 i3
        refine key _ ?_ ?_ ?_ ?_
        · exact PS.ok.musted (x := (typd n l (y.took l 10)).2.noEnd l 11) (i1.at rfl) (by decide)
        · show _ ≤ (PS.musted l _ 11).deep; rw [PS.musted_deep]; show _ ≤ (typd n l (y.took l 10)).2.deep; omega
        · show (PS.musted l _ 11).deep ≤ _; rw [PS.musted_deep]; show (typd n l (y.took l 10)).2.deep ≤ _; omega
        · show (made _ _).length ≤ _; rw [made_len]; simp; omega
      · rw [if_neg ht]
        refine key _ hx.named ?_ ?_ ?_
        · show _ ≤ (y.named l).2.deep; rw [PS.named_deep]; omega
        · show (y.named l).2.deep ≤ _; rw [PS.named_deep]; omega
        · show (made _ _).length ≤ _; rw [made_len]; simp
/-- A row of one row. -/
theorem kids_one {W : World} {base : Nat} {ok : Nat → Prop} {v : Value} {ys : List S50} (h : k50.R 50 W base ok v ys) : Kd.C (Kd.slice 50 k50) (W.alloc (.cells #[v] 41)) (some ⟨W.heap.size, 0, none⟩) [ys].length [ys] := by
  obtain ⟨A, c, rfl, hc, hC⟩ := Kd.R_reads h
  refine ⟨rfl, by simp, fun _ => ⟨_, rfl, fun j p hj => ?_⟩⟩
  cases j with
  | succ j => simp at hj
  | zero =>
    obtain rfl : ys = p := by simpa using hj
    refine ⟨[.slice A ys.length c], rfl, ⟨A, c, rfl, hc, Kd.C_below hC (below_alloc (Below.refl _ _) _)⟩, fun i u hu => ?_⟩
    cases i with
    | succ i => simp at hu
    | zero =>
      obtain rfl : Value.slice A ys.length c = u := by simpa using hu
      rw [add_plain]
      exact (blk_cell (blk_new W (.cells #[.slice A ys.length c] 41)) 0).trans rfl
theorem kids_none (W : World) : Kd.C (Kd.slice 50 k50) W none ([] : List (List S50)).length [] := ⟨rfl, by simp, fun h => absurd h (by simp)⟩
def typM (n : Nat) (l : List S24) (y : PS) : List S50 × PS := if y.takes l 10 = true then typB l (typd n l (y.took l 10)) else typN l y
theorem typ_mid (l : List S24) (n : Nat) (y : PS) (hx : y.ok l) : (typM n l y).2.ok l ∧ y.deep ≤ (typM n l y).2.deep ∧ (typM n l y).2.deep ≤ y.deep + n ∧ (typM n l y).1.length ≤ 2 * n + 1 := by
  unfold typM
  by_cases ht : y.takes l 10 = true
  · rw [if_pos ht]
    obtain ⟨i1, i2, i3, i4⟩ := typd_keeps l n (y.took l 10) (hx.took (by decide))
    rw [PS.took_deep] at i2 i3
    refine ⟨?_, ?_, ?_, ?_⟩
    · exact PS.ok.musted (x := (typd n l (y.took l 10)).2.noEnd l 11) (i1.at rfl) (by decide)
    · show _ ≤ (PS.musted l _ 11).deep; rw [PS.musted_deep]; show _ ≤ (typd n l (y.took l 10)).2.deep; omega
    · show (PS.musted l _ 11).deep ≤ _; rw [PS.musted_deep]; show (typd n l (y.took l 10)).2.deep ≤ _; omega
    · show (made _ _).length ≤ _; rw [made_len]; simp; omega
  · rw [if_neg ht]
    refine ⟨hx.named, ?_, ?_, ?_⟩
    · show _ ≤ (y.named l).2.deep; rw [PS.named_deep]; omega
    · show (y.named l).2.deep ≤ _; rw [PS.named_deep]; omega
    · show (made _ _).length ≤ _; rw [made_len]; simp
theorem PS.entered_ok {x : PS} (h : x.entered.bad = false) : x.deep + 1 ≤ 60 := by
  unfold PS.entered at h
  split at h
  · unfold PS.failed at h
    split at h <;> simp_all
  · omega
theorem Px.keep {W W1 : World} {base g : Nat} {l : List S24} {x : PS} {ok : Nat → Prop} {v : Value} {xs : List S50} (h : Px W base g l x) (hr : k50.R 50 W base ok v xs) (hw : W.grownBy W1 (some g)) : k50.R 50 W1 base ok v xs := by
  obtain ⟨u, hh, -, -⟩ := h
  exact R_grw hr hh (k50_ne (by decide)) hw
theorem grw_size {g : Nat} {w w1 : World} (h : w.grownBy w1 (some g)) : w.heap.size ≤ w1.heap.size := h.size
set_option maxRecDepth 8000 in
set_option maxHeartbeats 8000000 in
theorem typed_any (base g : Nat) (l : List S24) : ∀ (n : Nat) (x : PS) (w : World), Px w base g l x → x.ok l → -1000 ≤ x.deep → x.deep ≤ 60 → 61 ≤ x.deep + n → base ≤ w.heap.size → n ≤ 2000 →
    Calls Tryz.prog 68 #[.pointer (some ⟨g, 0, none⟩)] w fun e w' => (∃ v, e = .returned v ∧ k50.R 50 w' base (fun _ => True) v (typd n l x).1) ∧ Px w' base g l (typd n l x).2 ∧ w.grownBy w' (some g)
  | 0, x, w, h, ho, hd0, hd1, hn, hb, hN => by omega
  | n + 1, x, w, h, ho, hd0, hd1, hn, hb, hN => by
    have HE := Aside0.mk (enter_any base g l x w h (by omega) (by omega))
    obtain ⟨x1, hx1⟩ : ∃ y, y = x.entered := ⟨_, rfl⟩
    have ho1 : x1.ok l := by rw [hx1]; exact ho.entered
    have hd : x1.deep = x.deep + 1 := by rw [hx1, PS.entered_deep]
    have hd6 : x1.bad = false → x1.deep ≤ 60 := fun e => by rw [hd]; exact PS.entered_ok (by rw [← hx1]; exact e)
    have htyp : typd (n + 1) l x = if x1.bad = true then ([], x1) else typE l (typM n l (x1.noType l)) := by rw [typd, ← hx1]; rfl
    rw [← hx1] at HE
    rw [htyp]
    clear htyp hx1 h
    obtain ⟨bb, hbb⟩ : ∃ bb, bb = x1.bad := ⟨_, rfl⟩
    rw [← hbb] at HE ⊢
    cases bb with
    | true =>
      rw [if_pos rfl]
      clear hbb hd6
      go_enter Tryz.func68, Tryz.ntmps68
      go_wp2_with fail
      refine HE.out.mono ?_
      rintro e w1 ⟨rfl, hX1, hG1⟩
      have HX1 := Aside0.mk hX1
      have HG1 := Aside0.mk hG1
      clear hX1 hG1
      go_wp2_with fail
      go_ret
      exact ⟨⟨_, rfl, Kd.R_nil _ _ _ _ _⟩, HX1.out, HG1.out⟩
    | false =>
      rw [if_neg (by decide)]
      have hd6 := hd6 hbb.symm
      obtain ⟨k, hk⟩ : ∃ k, k = kd l x1.at_ := ⟨_, rfl⟩
      have HK := Aside0.mk (fun W h => kind_any base g l x1 0 W h ho1 (by omega) (by omega))
      rw [show x1.at_ + 0 = x1.at_ from Int.add_zero _, ← hk] at HK
      by_cases hk10 : k = 10
      · have hty : x1.noType l = x1 := by unfold PS.noType; rw [if_neg (by rw [← hk]; omega)]
        have ht : true = x1.takes l 10 := by unfold PS.takes; rw [← hbb, ← hk, hk10]; rfl
        rw [hty]
        obtain ⟨r, hr⟩ : ∃ r, r = typM n l x1 := ⟨_, rfl⟩
        have HM : Aside0 (r.2.ok l ∧ x1.deep ≤ r.2.deep ∧ r.2.deep ≤ x1.deep + n ∧ r.1.length ≤ 2 * n + 1) := ⟨by rw [hr]; exact typ_mid l n x1 ho1⟩
        rw [← hr]
        have HRE := Aside0.mk hr
        clear hr
        obtain ⟨x2, hx2⟩ : ∃ y, y = x1.took l 10 := ⟨_, rfl⟩
        have ho2 : x2.ok l := by rw [hx2]; exact ho1.took (by decide)
        have hd2 : x2.deep = x1.deep := by rw [hx2, PS.took_deep]
        obtain ⟨q, hq⟩ : ∃ q, q = typd n l x2 := ⟨_, rfl⟩
        have HT := Aside0.mk (fun W h => typed_any base g l n x2 W h ho2 (by omega) (by omega) (by omega))
        rw [← hq] at HT
        obtain ⟨hq1, hq2, hq3, hq4⟩ := typd_keeps l n x2 ho2
        rw [← hq] at hq1 hq2 hq3 hq4
        rw [hx2] at hq
        have HX2E := Aside0.mk hx2
        have HQE := Aside0.mk hq
        clear hx2 hq
        subst hk10
        clear hty hk
        have HT1 := Aside0.mk ht
        clear hbb ht
        go_enter Tryz.func68, Tryz.ntmps68
        go_wp2_with fail
        refine HE.out.mono ?_
        rintro e w1 ⟨rfl, hX1, hG1⟩
        have HX1 := Aside0.mk hX1
        have HG1 := Aside0.mk hG1
        clear hX1 hG1
        go_wp2_with fail
        refine (HK.out _ HX1.out).mono ?_
        rintro e w2 ⟨rfl, ⟨m2, rfl⟩⟩
        have HX2 := Aside0.mk (HX1.out.drewN m2)
        have HG2 := Aside0.mk (grw_trans HG1.out (grw_drewN g w1 m2))
        go_wp2_with fail
        refine (taken_any base g l x1 10 _ HX2.out ho1).mono ?_
        rw [← HT1.out, ← HX2E.out]
        rintro e w3 ⟨rfl, hX3, hG3⟩
        have HX3 := Aside0.mk hX3
        have HG3 := Aside0.mk (grw_trans HG2.out hG3)
        have hsz3 : base ≤ w3.heap.size := by have := HG3.out.size; omega
        clear hX3 hG3
        go_wp2_with fail
        refine (HT.out w3 HX3.out hsz3 (by omega)).mono ?_
        rintro e w4 ⟨⟨v4, rfl, hR4⟩, hX4, hG4⟩
        have HR4 := Aside0.mk hR4
        have HX4 := Aside0.mk hX4
        have HG4 := Aside0.mk (grw_trans HG3.out hG4)
        have hsz4 : base ≤ w4.heap.size := by have := HG4.out.size; omega
        clear hX4 hG4 hR4
        obtain ⟨A4, cc4, rfl, -, -⟩ := Kd.R_reads HR4.out
        go_wp2_with fail
        refine (made_any (nd 21 ⟨#[]⟩) [q.1] (some ⟨w4.heap.size, 0, none⟩) 1 _ (kids_one HR4.out) (by simp; omega) (by simp)).mono ?_
        rintro e w5 ⟨⟨v5, rfl, hR5⟩, hB5⟩
        have hB5' : Below w4.heap.size w4 w5 := (below_alloc (Below.refl _ _) _).trans (hB5.mono (by simp))
        have HR5' := Aside0.mk (Kd.R_lower hR5 (show base ≤ _ by simp; omega))
        have HX5 := Aside0.mk (HX4.out.below hB5')
        have HG5' := Aside0.mk (grw_trans HG4.out (grw_below hB5'))
        have HK5 := Aside0.mk (fun W h => kind_any base g l q.2 0 W h hq1 (by omega) (by omega))
        rw [show q.2.at_ + 0 = q.2.at_ from Int.add_zero _] at HK5
        obtain ⟨k5, hk5⟩ : ∃ k5, k5 = kd l q.2.at_ := ⟨_, rfl⟩
        rw [← hk5] at HK5
        obtain ⟨A5, cc5, hcc5, hCC5, c0, c1, c2, c3, c4, c5, fz⟩ := HX5.out.cells
        obtain ⟨u5, hu5⟩ : ∃ u5, u5 = q.2.unsure := ⟨_, rfl⟩
        rw [← hu5] at c5
        clear hR5 hB5 hB5' hCC5 hcc5
        cases u5 with
        | true =>
          have hne : q.2.noEnd l 11 = { q.2 with unsure := true } := by unfold PS.noEnd; rw [← hu5]; rfl
          have HN5 : Aside0 (Px (w5.setCell ⟨g, 5, none⟩ (.bool true)) base g l (q.2.noEnd l 11)) := ⟨by rw [hne]; exact HX5.out.set5 true⟩
          have HR5 := Aside0.mk (HX5.out.keep HR5'.out (grw_set (World.grownBy.refl w5 (some g)) 5 (.bool true)))
          have HG5 := Aside0.mk (grw_set HG5'.out 5 (.bool true))
          clear hne hu5 hk5
          go_wp2_with fail
          refine (must_any base g l (q.2.noEnd l 11) 11 _ HN5.out (hq1.at rfl)).mono ?_
          rintro e w6 ⟨rfl, hX6, hG6⟩
          have hr2 : r = (made (nd 21 ⟨#[]⟩) [q.1], (q.2.noEnd l 11).musted l 11) := by rw [HRE.out, HQE.out]; unfold typM; rw [if_pos HT1.out.symm]; rfl
          have HY : Aside0 (Px w6 base g l r.2) := ⟨by rw [hr2]; exact hX6⟩
          have HR : Aside0 (k50.R 50 w6 base (fun _ => True) v5 r.1) := ⟨by rw [hr2]; exact HN5.out.keep HR5.out hG6⟩
          have HG : Aside0 (w.grownBy w6 (some g)) := ⟨grw_trans HG5.out hG6⟩
          clear hr2 hX6 hG6
          obtain ⟨hm1, hm2, hm3, hm4⟩ := HM.out
          obtain ⟨b, hb2⟩ : ∃ b, b = r.2.takes l 2 := ⟨_, rfl⟩
          obtain ⟨z, hz⟩ : ∃ z, z = r.2.took l 2 := ⟨_, rfl⟩
          have hzd : z.deep = r.2.deep := by rw [hz, PS.took_deep]
          have HTE : Aside0 (typE l r = (if b = true then made (nd 22 ⟨#[]⟩) [r.1] else r.1, z.left)) := ⟨by rw [hb2, hz]; rfl⟩
          have htk2 := taken_any base g l r.2 2 w6 HY.out hm1
          rw [← hb2, ← hz] at htk2
          have HTK2 := Aside0.mk htk2
          clear htk2 hb2 hz
          go_wp2_with fail
          refine HTK2.out.mono ?_
          rintro e w7 ⟨rfl, hX7, hG7⟩
          have HR7 := Aside0.mk (HY.out.keep HR.out hG7)
          have HX7 := Aside0.mk hX7
          have HG7 := Aside0.mk (grw_trans HG.out hG7)
          have hsz7 : base ≤ w7.heap.size := by have := HG7.out.size; omega
          clear hX7 hG7
          cases b with
          | false =>
            go_wp2_with fail
            refine (leave_any base g l z w7 HX7.out (by omega) (by omega)).mono ?_
            rintro e w8 ⟨rfl, hX8, hG8⟩
            have HX8 := Aside0.mk hX8
            have HR8 := Aside0.mk (HX7.out.keep HR7.out hG8)
            have HG8 := Aside0.mk (grw_trans HG7.out hG8)
            clear hX8 hG8
            go_wp2_with fail
            go_ret
            exact ⟨⟨_, rfl, by rw [HTE.out]; exact HR8.out⟩, by rw [HTE.out]; exact HX8.out, HG8.out⟩
          | true =>
            obtain ⟨A7, cc7, rfl, -, -⟩ := Kd.R_reads HR7.out
            go_wp2_with fail
            refine (made_any (nd 22 ⟨#[]⟩) [r.1] (some ⟨w7.heap.size, 0, none⟩) 1 _ (kids_one HR7.out) (by simp; omega) (by simp)).mono ?_
            rintro e w8 ⟨⟨v8, rfl, hR8⟩, hB8⟩
            have hB8' : Below w7.heap.size w7 w8 := (below_alloc (Below.refl _ _) _).trans (hB8.mono (by simp))
            have HR8 := Aside0.mk (Kd.R_lower hR8 (show base ≤ _ by simp; omega))
            have HX8 := Aside0.mk (HX7.out.below hB8')
            have HG8 := Aside0.mk (grw_trans HG7.out (grw_below hB8'))
            clear hR8 hB8 hB8'
            go_wp2_with fail
            refine (leave_any base g l z w8 HX8.out (by omega) (by omega)).mono ?_
            rintro e w9 ⟨rfl, hX9, hG9⟩
            have HX9 := Aside0.mk hX9
            have HR9 := Aside0.mk (HX8.out.keep HR8.out hG9)
            have HG9 := Aside0.mk (grw_trans HG8.out hG9)
            clear hX9 hG9
            go_wp2_with fail
            go_ret
            exact ⟨⟨_, rfl, by rw [HTE.out]; exact HR9.out⟩, by rw [HTE.out]; exact HX9.out, HG9.out⟩
        | false =>
          have hne : q.2.noEnd l 11 = { q.2 with unsure := (k5 != 11) } := by unfold PS.noEnd; rw [← hu5, ← hk5]; rfl
          obtain ⟨b5, hb5⟩ : ∃ b5, b5 = (k5 != 11) := ⟨_, rfl⟩
          rw [← hb5] at hne
          clear hu5 hk5
          go_wp2_with fail
          refine (HK5.out _ HX5.out).mono ?_
          rintro e w5b ⟨rfl, ⟨m5, rfl⟩⟩
          have HN5 : Aside0 (Px ((w5.drewN m5).setCell ⟨g, 5, none⟩ (.bool b5)) base g l (q.2.noEnd l 11)) := ⟨by rw [hne]; exact (HX5.out.drewN m5).set5 b5⟩
          have HR5 := Aside0.mk (HX5.out.keep HR5'.out (grw_set (grw_drewN g w5 m5) 5 (.bool b5)))
          have HG5 := Aside0.mk (grw_set (grw_trans HG5'.out (grw_drewN g w5 m5)) 5 (.bool b5))
          have hb5' := hb5.symm
          clear hne hb5
          cases b5 with
          | true =>
            go_wp2_with fail
            refine (must_any base g l (q.2.noEnd l 11) 11 _ HN5.out (hq1.at rfl)).mono ?_
            rintro e w6 ⟨rfl, hX6, hG6⟩
            have hr2 : r = (made (nd 21 ⟨#[]⟩) [q.1], (q.2.noEnd l 11).musted l 11) := by rw [HRE.out, HQE.out]; unfold typM; rw [if_pos HT1.out.symm]; rfl
            have HY : Aside0 (Px w6 base g l r.2) := ⟨by rw [hr2]; exact hX6⟩
            have HR : Aside0 (k50.R 50 w6 base (fun _ => True) v5 r.1) := ⟨by rw [hr2]; exact HN5.out.keep HR5.out hG6⟩
            have HG : Aside0 (w.grownBy w6 (some g)) := ⟨grw_trans HG5.out hG6⟩
            clear hr2 hX6 hG6
            obtain ⟨hm1, hm2, hm3, hm4⟩ := HM.out
            obtain ⟨b, hb2⟩ : ∃ b, b = r.2.takes l 2 := ⟨_, rfl⟩
            obtain ⟨z, hz⟩ : ∃ z, z = r.2.took l 2 := ⟨_, rfl⟩
            have hzd : z.deep = r.2.deep := by rw [hz, PS.took_deep]
            have HTE : Aside0 (typE l r = (if b = true then made (nd 22 ⟨#[]⟩) [r.1] else r.1, z.left)) := ⟨by rw [hb2, hz]; rfl⟩
            have htk2 := taken_any base g l r.2 2 w6 HY.out hm1
            rw [← hb2, ← hz] at htk2
            have HTK2 := Aside0.mk htk2
            clear htk2 hb2 hz
            go_wp2_with fail
            refine HTK2.out.mono ?_
            rintro e w7 ⟨rfl, hX7, hG7⟩
            have HR7 := Aside0.mk (HY.out.keep HR.out hG7)
            have HX7 := Aside0.mk hX7
            have HG7 := Aside0.mk (grw_trans HG.out hG7)
            have hsz7 : base ≤ w7.heap.size := by have := HG7.out.size; omega
            clear hX7 hG7
            cases b with
            | false =>
              go_wp2_with fail
              refine (leave_any base g l z w7 HX7.out (by omega) (by omega)).mono ?_
              rintro e w8 ⟨rfl, hX8, hG8⟩
              have HX8 := Aside0.mk hX8
              have HR8 := Aside0.mk (HX7.out.keep HR7.out hG8)
              have HG8 := Aside0.mk (grw_trans HG7.out hG8)
              clear hX8 hG8
              go_wp2_with fail
              go_ret
              exact ⟨⟨_, rfl, by rw [HTE.out]; exact HR8.out⟩, by rw [HTE.out]; exact HX8.out, HG8.out⟩
            | true =>
              obtain ⟨A7, cc7, rfl, -, -⟩ := Kd.R_reads HR7.out
              go_wp2_with fail
              refine (made_any (nd 22 ⟨#[]⟩) [r.1] (some ⟨w7.heap.size, 0, none⟩) 1 _ (kids_one HR7.out) (by simp; omega) (by simp)).mono ?_
              rintro e w8 ⟨⟨v8, rfl, hR8⟩, hB8⟩
              have hB8' : Below w7.heap.size w7 w8 := (below_alloc (Below.refl _ _) _).trans (hB8.mono (by simp))
              have HR8 := Aside0.mk (Kd.R_lower hR8 (show base ≤ _ by simp; omega))
              have HX8 := Aside0.mk (HX7.out.below hB8')
              have HG8 := Aside0.mk (grw_trans HG7.out (grw_below hB8'))
              clear hR8 hB8 hB8'
              go_wp2_with fail
              refine (leave_any base g l z w8 HX8.out (by omega) (by omega)).mono ?_
              rintro e w9 ⟨rfl, hX9, hG9⟩
              have HX9 := Aside0.mk hX9
              have HR9 := Aside0.mk (HX8.out.keep HR8.out hG9)
              have HG9 := Aside0.mk (grw_trans HG8.out hG9)
              clear hX9 hG9
              go_wp2_with fail
              go_ret
              exact ⟨⟨_, rfl, by rw [HTE.out]; exact HR9.out⟩, by rw [HTE.out]; exact HX9.out, HG9.out⟩
          | false =>
            go_wp2_with fail
            refine (must_any base g l (q.2.noEnd l 11) 11 _ HN5.out (hq1.at rfl)).mono ?_
            rintro e w6 ⟨rfl, hX6, hG6⟩
            have hr2 : r = (made (nd 21 ⟨#[]⟩) [q.1], (q.2.noEnd l 11).musted l 11) := by rw [HRE.out, HQE.out]; unfold typM; rw [if_pos HT1.out.symm]; rfl
            have HY : Aside0 (Px w6 base g l r.2) := ⟨by rw [hr2]; exact hX6⟩
            have HR : Aside0 (k50.R 50 w6 base (fun _ => True) v5 r.1) := ⟨by rw [hr2]; exact HN5.out.keep HR5.out hG6⟩
            have HG : Aside0 (w.grownBy w6 (some g)) := ⟨grw_trans HG5.out hG6⟩
            clear hr2 hX6 hG6
            obtain ⟨hm1, hm2, hm3, hm4⟩ := HM.out
            obtain ⟨b, hb2⟩ : ∃ b, b = r.2.takes l 2 := ⟨_, rfl⟩
            obtain ⟨z, hz⟩ : ∃ z, z = r.2.took l 2 := ⟨_, rfl⟩
            have hzd : z.deep = r.2.deep := by rw [hz, PS.took_deep]
            have HTE : Aside0 (typE l r = (if b = true then made (nd 22 ⟨#[]⟩) [r.1] else r.1, z.left)) := ⟨by rw [hb2, hz]; rfl⟩
            have htk2 := taken_any base g l r.2 2 w6 HY.out hm1
            rw [← hb2, ← hz] at htk2
            have HTK2 := Aside0.mk htk2
            clear htk2 hb2 hz
            go_wp2_with fail
            refine HTK2.out.mono ?_
            rintro e w7 ⟨rfl, hX7, hG7⟩
            have HR7 := Aside0.mk (HY.out.keep HR.out hG7)
            have HX7 := Aside0.mk hX7
            have HG7 := Aside0.mk (grw_trans HG.out hG7)
            have hsz7 : base ≤ w7.heap.size := by have := HG7.out.size; omega
            clear hX7 hG7
            cases b with
            | false =>
              go_wp2_with fail
              refine (leave_any base g l z w7 HX7.out (by omega) (by omega)).mono ?_
              rintro e w8 ⟨rfl, hX8, hG8⟩
              have HX8 := Aside0.mk hX8
              have HR8 := Aside0.mk (HX7.out.keep HR7.out hG8)
              have HG8 := Aside0.mk (grw_trans HG7.out hG8)
              clear hX8 hG8
              go_wp2_with fail
              go_ret
              exact ⟨⟨_, rfl, by rw [HTE.out]; exact HR8.out⟩, by rw [HTE.out]; exact HX8.out, HG8.out⟩
            | true =>
              obtain ⟨A7, cc7, rfl, -, -⟩ := Kd.R_reads HR7.out
              go_wp2_with fail
              refine (made_any (nd 22 ⟨#[]⟩) [r.1] (some ⟨w7.heap.size, 0, none⟩) 1 _ (kids_one HR7.out) (by simp; omega) (by simp)).mono ?_
              rintro e w8 ⟨⟨v8, rfl, hR8⟩, hB8⟩
              have hB8' : Below w7.heap.size w7 w8 := (below_alloc (Below.refl _ _) _).trans (hB8.mono (by simp))
              have HR8 := Aside0.mk (Kd.R_lower hR8 (show base ≤ _ by simp; omega))
              have HX8 := Aside0.mk (HX7.out.below hB8')
              have HG8 := Aside0.mk (grw_trans HG7.out (grw_below hB8'))
              clear hR8 hB8 hB8'
              go_wp2_with fail
              refine (leave_any base g l z w8 HX8.out (by omega) (by omega)).mono ?_
              rintro e w9 ⟨rfl, hX9, hG9⟩
              have HX9 := Aside0.mk hX9
              have HR9 := Aside0.mk (HX8.out.keep HR8.out hG9)
              have HG9 := Aside0.mk (grw_trans HG8.out hG9)
              clear hX9 hG9
              go_wp2_with fail
              go_ret
              exact ⟨⟨_, rfl, by rw [HTE.out]; exact HR9.out⟩, by rw [HTE.out]; exact HX9.out, HG9.out⟩
      · by_cases hk15 : k = 15
        · have hty : x1.noType l = x1 := by unfold PS.noType; rw [if_neg (by rw [← hk]; omega)]
          have ht : false = x1.takes l 10 := by unfold PS.takes; rw [← hk, hk15]; simp
          have htk : x1.took l 10 = x1 := by unfold PS.took; rw [← ht]; rfl
          rw [hty]
          obtain ⟨r, hr⟩ : ∃ r, r = typM n l x1 := ⟨_, rfl⟩
          have HM : Aside0 (r.2.ok l ∧ x1.deep ≤ r.2.deep ∧ r.2.deep ≤ x1.deep + n ∧ r.1.length ≤ 2 * n + 1) := ⟨by rw [hr]; exact typ_mid l n x1 ho1⟩
          rw [← hr]
          have HRE := Aside0.mk hr
          clear hr
          subst hk15
          have HOY := Aside0.mk ho1
          clear hty hk
          have HT1 := Aside0.mk ht
          have HTK := Aside0.mk htk
          clear hbb ht htk
          go_enter Tryz.func68, Tryz.ntmps68
          go_wp2_with fail
          refine HE.out.mono ?_
          rintro e w1 ⟨rfl, hX1, hG1⟩
          have HX1 := Aside0.mk hX1
          have HG1 := Aside0.mk hG1
          clear hX1 hG1
          go_wp2_with fail
          refine (HK.out _ HX1.out).mono ?_
          rintro e w2 ⟨rfl, ⟨m2, rfl⟩⟩
          have HX2 := Aside0.mk (HX1.out.drewN m2)
          have HG2 := Aside0.mk (grw_trans HG1.out (grw_drewN g w1 m2))
          go_wp2_with fail
          refine (HK.out _ HX2.out).mono ?_
          rintro e w3 ⟨rfl, ⟨m3, rfl⟩⟩
          have HX3 := Aside0.mk (HX1.out.drewN (m2 + m3))
          have HG3 := Aside0.mk (grw_trans HG1.out (grw_drewN g w1 (m2 + m3)))
          go_wp2_with fail
          refine (taken_any base g l x1 10 _ HX3.out ho1).mono ?_
          rw [← HT1.out, HTK.out]
          rintro e w4 ⟨rfl, hX4, hG4⟩
          have HX4 := Aside0.mk hX4
          have HG4 := Aside0.mk (grw_trans HG3.out hG4)
          clear hX4 hG4
          go_wp2_with fail
          refine (pname_any base g l x1 w4 HX4.out HOY.out).mono ?_
          rintro e w5 ⟨rfl, hX5, hG5⟩
          have HX5 := Aside0.mk hX5
          have HG5 := Aside0.mk (grw_trans HG4.out hG5)
          have hsz5 : base ≤ w5.heap.size := by have := HG5.out.size; omega
          obtain ⟨nm, hnm⟩ : ∃ nm, nm = x1.named l := ⟨_, rfl⟩
          rw [← hnm] at HX5 ⊢
          have HNM := Aside0.mk hnm
          clear hX5 hG5 hnm
          go_wp2_with fail
          refine (made_any (nd 20 nm.1) [] none 0 w5 (kids_none _) (by simp) (by simp)).mono ?_
          rintro e w6 ⟨⟨v6, rfl, hR6⟩, hB6⟩
          have hr2 : r = (made (nd 20 nm.1) [], nm.2) := by rw [HRE.out, HNM.out]; unfold typM; rw [if_neg (by rw [← HT1.out]; decide)]; rfl
          have HY : Aside0 (Px w6 base g l r.2) := ⟨by rw [hr2]; exact HX5.out.below hB6⟩
          have HR : Aside0 (k50.R 50 w6 base (fun _ => True) v6 r.1) := ⟨by rw [hr2]; exact Kd.R_lower hR6 hsz5⟩
          have HG : Aside0 (w.grownBy w6 (some g)) := ⟨grw_trans HG5.out (grw_below hB6)⟩
          clear hr2 hR6 hB6
          obtain ⟨hm1, hm2, hm3, hm4⟩ := HM.out
          obtain ⟨b, hb2⟩ : ∃ b, b = r.2.takes l 2 := ⟨_, rfl⟩
          obtain ⟨z, hz⟩ : ∃ z, z = r.2.took l 2 := ⟨_, rfl⟩
          have hzd : z.deep = r.2.deep := by rw [hz, PS.took_deep]
          have HTE : Aside0 (typE l r = (if b = true then made (nd 22 ⟨#[]⟩) [r.1] else r.1, z.left)) := ⟨by rw [hb2, hz]; rfl⟩
          have htk2 := taken_any base g l r.2 2 w6 HY.out hm1
          rw [← hb2, ← hz] at htk2
          have HTK2 := Aside0.mk htk2
          clear htk2 hb2 hz
          go_wp2_with fail
          refine HTK2.out.mono ?_
          rintro e w7 ⟨rfl, hX7, hG7⟩
          have HR7 := Aside0.mk (HY.out.keep HR.out hG7)
          have HX7 := Aside0.mk hX7
          have HG7 := Aside0.mk (grw_trans HG.out hG7)
          have hsz7 : base ≤ w7.heap.size := by have := HG7.out.size; omega
          clear hX7 hG7
          cases b with
          | false =>
            go_wp2_with fail
            refine (leave_any base g l z w7 HX7.out (by omega) (by omega)).mono ?_
            rintro e w8 ⟨rfl, hX8, hG8⟩
            have HX8 := Aside0.mk hX8
            have HR8 := Aside0.mk (HX7.out.keep HR7.out hG8)
            have HG8 := Aside0.mk (grw_trans HG7.out hG8)
            clear hX8 hG8
            go_wp2_with fail
            go_ret
            exact ⟨⟨_, rfl, by rw [HTE.out]; exact HR8.out⟩, by rw [HTE.out]; exact HX8.out, HG8.out⟩
          | true =>
            obtain ⟨A7, cc7, rfl, -, -⟩ := Kd.R_reads HR7.out
            go_wp2_with fail
            refine (made_any (nd 22 ⟨#[]⟩) [r.1] (some ⟨w7.heap.size, 0, none⟩) 1 _ (kids_one HR7.out) (by simp; omega) (by simp)).mono ?_
            rintro e w8 ⟨⟨v8, rfl, hR8⟩, hB8⟩
            have hB8' : Below w7.heap.size w7 w8 := (below_alloc (Below.refl _ _) _).trans (hB8.mono (by simp))
            have HR8 := Aside0.mk (Kd.R_lower hR8 (show base ≤ _ by simp; omega))
            have HX8 := Aside0.mk (HX7.out.below hB8')
            have HG8 := Aside0.mk (grw_trans HG7.out (grw_below hB8'))
            clear hR8 hB8 hB8'
            go_wp2_with fail
            refine (leave_any base g l z w8 HX8.out (by omega) (by omega)).mono ?_
            rintro e w9 ⟨rfl, hX9, hG9⟩
            have HX9 := Aside0.mk hX9
            have HR9 := Aside0.mk (HX8.out.keep HR8.out hG9)
            have HG9 := Aside0.mk (grw_trans HG8.out hG9)
            clear hX9 hG9
            go_wp2_with fail
            go_ret
            exact ⟨⟨_, rfl, by rw [HTE.out]; exact HR9.out⟩, by rw [HTE.out]; exact HX9.out, HG9.out⟩
        · obtain ⟨y, hy⟩ : ∃ y, y = x1.noType l := ⟨_, rfl⟩
          have hy2 : y = { x1 with unsure := true } := by rw [hy]; unfold PS.noType; rw [if_pos (by rw [← hk]; exact ⟨hk10, hk15⟩)]
          have hoy : y.ok l := by rw [hy]; exact ho1.noType
          have hdy : y.deep = x1.deep := by rw [hy, PS.noType_deep]
          have ht : false = y.takes l 10 := by rw [hy2]; unfold PS.takes; dsimp only; rw [← hk]; simp [hk10]
          have htk : y.took l 10 = y := by unfold PS.took; rw [← ht]; rfl
          have k10 : (k != 10) = true := by simpa using hk10
          have k15 : (k != 15) = true := by simpa using hk15
          have HOY := Aside0.mk hoy
          have HY2 := Aside0.mk hy2
          rw [← hy]
          obtain ⟨r, hr⟩ : ∃ r, r = typM n l y := ⟨_, rfl⟩
          have HM : Aside0 (r.2.ok l ∧ y.deep ≤ r.2.deep ∧ r.2.deep ≤ y.deep + n ∧ r.1.length ≤ 2 * n + 1) := ⟨by rw [hr]; exact typ_mid l n y hoy⟩
          rw [← hr]
          have HRE := Aside0.mk hr
          clear hr
          clear hy hk hy2
          have HT1 := Aside0.mk ht
          have HTK := Aside0.mk htk
          clear hbb ht htk
          go_enter Tryz.func68, Tryz.ntmps68
          go_wp2_with fail
          refine HE.out.mono ?_
          rintro e w1 ⟨rfl, hX1, hG1⟩
          have HX1 := Aside0.mk hX1
          have HG1 := Aside0.mk hG1
          clear hX1 hG1
          go_wp2_with fail
          refine (HK.out _ HX1.out).mono ?_
          rintro e w2 ⟨rfl, ⟨m2, rfl⟩⟩
          have HX2 := Aside0.mk (HX1.out.drewN m2)
          have HG2 := Aside0.mk (grw_trans HG1.out (grw_drewN g w1 m2))
          go_wp2_with fail
          refine (HK.out _ HX2.out).mono ?_
          rintro e w3 ⟨rfl, ⟨m3, rfl⟩⟩
          have HX3 := Aside0.mk (HX1.out.drewN (m2 + m3))
          have HG3' := Aside0.mk (grw_trans HG1.out (grw_drewN g w1 (m2 + m3)))
          have HX3y : Aside0 (Px ((w1.drewN (m2 + m3)).setCell ⟨g, 5, none⟩ (.bool true)) base g l y) := ⟨by rw [HY2.out]; exact HX3.out.set5 true⟩
          have HG3 := Aside0.mk (grw_set HG3'.out 5 (.bool true))
          obtain ⟨A5, cc5, hcc5, hCC5, c0, c1, c2, c3, c4, c5, fz⟩ := HX1.out.cells
          clear hCC5 hcc5
          go_wp2_with fail
          refine (taken_any base g l y 10 _ HX3y.out hoy).mono ?_
          rw [← HT1.out, HTK.out]
          rintro e w4 ⟨rfl, hX4, hG4⟩
          have HX4 := Aside0.mk hX4
          have HG4 := Aside0.mk (grw_trans HG3.out hG4)
          clear hX4 hG4
          go_wp2_with fail
          refine (pname_any base g l y w4 HX4.out HOY.out).mono ?_
          rintro e w5 ⟨rfl, hX5, hG5⟩
          have HX5 := Aside0.mk hX5
          have HG5 := Aside0.mk (grw_trans HG4.out hG5)
          have hsz5 : base ≤ w5.heap.size := by have := HG5.out.size; omega
          obtain ⟨nm, hnm⟩ : ∃ nm, nm = y.named l := ⟨_, rfl⟩
          rw [← hnm] at HX5 ⊢
          have HNM := Aside0.mk hnm
          clear hX5 hG5 hnm
          go_wp2_with fail
          refine (made_any (nd 20 nm.1) [] none 0 w5 (kids_none _) (by simp) (by simp)).mono ?_
          rintro e w6 ⟨⟨v6, rfl, hR6⟩, hB6⟩
          have hr2 : r = (made (nd 20 nm.1) [], nm.2) := by rw [HRE.out, HNM.out]; unfold typM; rw [if_neg (by rw [← HT1.out]; decide)]; rfl
          have HY : Aside0 (Px w6 base g l r.2) := ⟨by rw [hr2]; exact HX5.out.below hB6⟩
          have HR : Aside0 (k50.R 50 w6 base (fun _ => True) v6 r.1) := ⟨by rw [hr2]; exact Kd.R_lower hR6 hsz5⟩
          have HG : Aside0 (w.grownBy w6 (some g)) := ⟨grw_trans HG5.out (grw_below hB6)⟩
          clear hr2 hR6 hB6
          obtain ⟨hm1, hm2, hm3, hm4⟩ := HM.out
          obtain ⟨b, hb2⟩ : ∃ b, b = r.2.takes l 2 := ⟨_, rfl⟩
          obtain ⟨z, hz⟩ : ∃ z, z = r.2.took l 2 := ⟨_, rfl⟩
          have hzd : z.deep = r.2.deep := by rw [hz, PS.took_deep]
          have HTE : Aside0 (typE l r = (if b = true then made (nd 22 ⟨#[]⟩) [r.1] else r.1, z.left)) := ⟨by rw [hb2, hz]; rfl⟩
          have htk2 := taken_any base g l r.2 2 w6 HY.out hm1
          rw [← hb2, ← hz] at htk2
          have HTK2 := Aside0.mk htk2
          clear htk2 hb2 hz
          go_wp2_with fail
          refine HTK2.out.mono ?_
          rintro e w7 ⟨rfl, hX7, hG7⟩
          have HR7 := Aside0.mk (HY.out.keep HR.out hG7)
          have HX7 := Aside0.mk hX7
          have HG7 := Aside0.mk (grw_trans HG.out hG7)
          have hsz7 : base ≤ w7.heap.size := by have := HG7.out.size; omega
          clear hX7 hG7
          cases b with
          | false =>
            go_wp2_with fail
            refine (leave_any base g l z w7 HX7.out (by omega) (by omega)).mono ?_
            rintro e w8 ⟨rfl, hX8, hG8⟩
            have HX8 := Aside0.mk hX8
            have HR8 := Aside0.mk (HX7.out.keep HR7.out hG8)
            have HG8 := Aside0.mk (grw_trans HG7.out hG8)
            clear hX8 hG8
            go_wp2_with fail
            go_ret
            exact ⟨⟨_, rfl, by rw [HTE.out]; exact HR8.out⟩, by rw [HTE.out]; exact HX8.out, HG8.out⟩
          | true =>
            obtain ⟨A7, cc7, rfl, -, -⟩ := Kd.R_reads HR7.out
            go_wp2_with fail
            refine (made_any (nd 22 ⟨#[]⟩) [r.1] (some ⟨w7.heap.size, 0, none⟩) 1 _ (kids_one HR7.out) (by simp; omega) (by simp)).mono ?_
            rintro e w8 ⟨⟨v8, rfl, hR8⟩, hB8⟩
            have hB8' : Below w7.heap.size w7 w8 := (below_alloc (Below.refl _ _) _).trans (hB8.mono (by simp))
            have HR8 := Aside0.mk (Kd.R_lower hR8 (show base ≤ _ by simp; omega))
            have HX8 := Aside0.mk (HX7.out.below hB8')
            have HG8 := Aside0.mk (grw_trans HG7.out (grw_below hB8'))
            clear hR8 hB8 hB8'
            go_wp2_with fail
            refine (leave_any base g l z w8 HX8.out (by omega) (by omega)).mono ?_
            rintro e w9 ⟨rfl, hX9, hG9⟩
            have HX9 := Aside0.mk hX9
            have HR9 := Aside0.mk (HX8.out.keep HR8.out hG9)
            have HG9 := Aside0.mk (grw_trans HG8.out hG9)
            clear hX9 hG9
            go_wp2_with fail
            go_ret
            exact ⟨⟨_, rfl, by rw [HTE.out]; exact HR9.out⟩, by rw [HTE.out]; exact HX9.out, HG9.out⟩
end Go.Proofs.YtbobbognjmofdaaGreatDoor.Lex
