/-
  The law FnCoerceString, walked: it is true of all data.
-/
import Derived.Test.YtdcfbgpcpjjjaaaGreatDoorCm
import Derived.Test.YtdcfbgpcpjjjaaaGreatDoorFm
namespace Go.Proofs.YtdcfbgpcpjjjaaaGreatDoor.Co
open Go.RowKit Go.Proofs.YtdcfbgpcpjjjaaaGreatDoorW.PrintWords Go.Proofs.YtdcfbgpcpjjjaaaGreatDoorW.PrintLast Go.Proofs.YtdcfbgpcpjjjaaaGreatDoorW.PrintMore
open Go.Proofs.YtdcfbgpcpjjjaaaGreatDoor.Fl Go.Proofs.YtdcfbgpcpjjjaaaGreatDoor.Dr Go.Proofs.YtdcfbgpcpjjjaaaGreatDoor.PFnCoerceString
set_option linter.unusedVariables false
set_option linter.unusedSimpArgs false
attribute [local go_sem] run_store_float
theorem tab_below {w w' : World} (h : TabAt w) (hb : Below w.heap.size w w') : TabAt w' := Lib.tabBelow_of_tabIs h w' hb
set_option maxHeartbeats 4000000 in
theorem textValue_any (t : ByteArray) (w : World) : Calls Tryz.prog 10 #[.string t] w fun e w' => ∃ v, e = .returned v ∧ Is1 w' v ⟨6, 0, t, 1⟩ ∧ Below w.heap.size w w' := by
  have HF : Aside0 (Is1 (w.alloc (.cells #[.int .i64 6, .float .f64 0, .string t, .int .i64 1] 27)) (.slice (some ⟨w.heap.size, 0, none⟩) 1 1) ⟨6, 0, t, 1⟩) := ⟨is1_blk (Nat.le_refl _) (blk_new w _)⟩
  go_enter Tryz.func10, Tryz.ntmps10
  go_wp2_with fail
  go_ret
  exact ⟨_, rfl, HF.out, below_one _ _⟩
set_option maxHeartbeats 4000000 in
theorem digits_any (n : Nat) (k : Int) (hk : Go.floatToIntVal .f64 n .i64 = some k) (h0 : -9223372036854775808 ≤ k) (h1 : k ≤ 9223372036854775807) (w : World) (hT : TabAt w) :
    Calls Tryz.prog 7 #[.float .f64 n] w fun e w' => e = .returned (.string (digitsOf k)) ∧ Below w.heap.size w w' := by
  have hcv : ∀ W : World, (convert 25 2 (.float .f64 n)).run Tryz.prog W = .ok (.int .i64 k) W := fun W => run_convert_float_int W 25 2 .f64 .i64 n k (by rw [Tryz.underlying25]; rfl) Tryz.underlying2 hk
  have HI := Aside0.mk (Go.Proofs.Tryz.strconv_FormatInt_10 k h0 h1 w hT)
  go_enter Tryz.func7, Tryz.ntmps7
  go_wp2_with fail
  refine HI.out.mono ?_
  rintro e w1 ⟨rfl, m, os, rfl⟩
  have HB := Aside0.mk (Lib.below_grow _ w (Nat.le_refl _) m os)
  go_wp2_with fail
  go_ret
  exact ⟨rfl, HB.out⟩
/-- What is known of a node of one. -/
structure Known (v : List V4) (x : V4) : Prop where
  one : v = [x]
  size : x.size = 1
  leaf : leafR utf false 1 x = true
theorem known {v : List V4} {x : V4} (hx : x = rd27 v 0) (h0 : 0 < v.length) (ht : topR false v = true) : x.kind = 2 ∨ x.kind = 3 ∨ x.kind = 4 ∨ x.kind = 5 ∨ x.kind = 6 → Known v x := by
  intro hk
  unfold topR at ht
  rw [← hx, Bool.and_eq_true] at ht
  obtain ⟨hh, hl⟩ := ht
  have h1 : v.length = 1 := by
    unfold leafR at hl
    rcases hk with e | e | e | e | e <;> rw [e] at hl <;> simp at hl <;> first | exact hl | exact hl.1
  obtain ⟨y, rfl⟩ : ∃ y, v = [y] := List.length_eq_one_iff.1 h1
  obtain rfl : x = y := by rw [hx]; rfl
  unfold headR at hh
  rw [Bool.and_eq_true, Bool.and_eq_true] at hh
  have hs := of_decide_eq_true hh.1.1
  exact ⟨rfl, by simpa using hs, by simpa using hl⟩
set_option maxHeartbeats 40000000 in
theorem lawString_any (v : List V4) (A : Option Addr) (c : Nat) (w : World) (hT : TabAt w) (hC : Kd.C k27 w A v.length v) (hc : v.length ≤ c) (hw : ∀ x, x ∈ v → x.wf) :
    Calls Tryz.prog 3 #[.slice A v.length c] w fun e w' => e = .returned (.bool true) ∧ Below w.heap.size w w' := by
  have HC := Aside0.mk hC
  have HW := Aside0.mk hw
  have HT := Aside0.mk hT
  clear hC hw hT
  go_enter Tryz.func3, Tryz.ntmps3
  go_wp2_with fail
  refine (fits4_any v A c w HC.out hc).mono ?_
  rintro e w1 ⟨⟨b, rfl⟩, hb⟩
  have HB1 := Aside0.mk hb
  clear hb
  cases b with
  | false =>
    go_wp2_with fail
    go_ret
    exact ⟨rfl, HB1.out⟩
  | true =>
  go_wp2_with fail
  refine (dataRight_any v A c false w1 (Kd.C_below HC.out HB1.out) hc HW.out).mono ?_
  rintro e w2 ⟨⟨b, rfl, hs⟩, hb⟩
  have HB2 := Aside0.mk (below_step HB1.out hb)
  clear hb
  cases b with
  | false =>
    go_wp2_with fail
    go_ret
    exact ⟨rfl, HB2.out⟩
  | true =>
  obtain ⟨h0, h3, hs⟩ := hs rfl
  have hlt : (0 : Int) < (v.length : Int) := by omega
  obtain ⟨ad, rfl, p0, p1, p2, p3⟩ := at0_27 (Kd.C_below HC.out HB2.out) h0
  obtain ⟨x, hx⟩ : ∃ x, x = rd27 v 0 := ⟨_, rfl⟩
  have HS : Aside0 (x.kind = 2 ∨ x.kind = 3 ∨ x.kind = 4 ∨ x.kind = 6 → Known v x) := ⟨fun hk => known hx h0 (hs (by rw [← hx]; omega) (by rw [← hx]; omega)) (by omega)⟩
  rw [← hx] at p0 p1 p2 p3
  clear hs hx
  by_cases k6 : x.kind = 6
  · obtain ⟨rfl, h1, hl⟩ := HS.out (by omega)
    obtain ⟨xk, xn, xt, xs⟩ := x
    dsimp only at k6 h1 p0 p1 p2 p3
    subst k6; subst h1
    have HG : Aside0 (GoV ⟨6, xn, xt, 1⟩ (.iface 9 (.string xt))) := ⟨GoV.txt _ _⟩
    have HX : Aside0 (TextOf (.iface 9 (.string xt)) xt) := ⟨TextOf.txt _⟩
    have hc : 1 ≤ c := by simpa using hc
    rw [show ([⟨6, xn, xt, 1⟩] : List V4).length = 1 from rfl] at *
    clear HS hl
    go_wp2_with fail
    refine (implString_any ⟨6, xn, xt, 1⟩ ⟨6, 0, xt, 1⟩ (.iface 9 (.string xt)) (.iface 9 (.string xt)) HG.out (Node.txt xt) (some ad) c w2 hc (Kd.C_below HC.out HB2.out) (fun W hb => doorString_any (.iface 9 (.string xt)) xt HX.out W (tab_below HT.out (below_step HB2.out hb)))).mono ?_
    rintro e w3 ⟨u, rfl, h3, hb⟩
    have H3 := Aside0.mk h3
    have HB3 := Aside0.mk (below_step HB2.out hb)
    clear h3 hb
    go_wp2_with fail
    refine (textValue_any xt w3).mono ?_
    rintro e w4 ⟨u', rfl, h4, hb⟩
    have H3' := Aside0.mk (H3.out.below hb)
    have H4 := Aside0.mk h4
    have HB4 := Aside0.mk (below_step HB3.out hb)
    clear h4 hb
    go_wp2_with fail
    refine (same_one u u' _ _ w4 H3'.out H4.out rfl (by show D.order 0 0 = _; decide) rfl).mono ?_
    rintro e w5 ⟨rfl, hb⟩
    have HB5 := Aside0.mk (below_step HB4.out hb)
    clear hb
    go_wp2_with fail
    go_ret
    exact ⟨rfl, HB5.out⟩
  by_cases k4 : x.kind = 4
  · obtain ⟨rfl, h1, hl⟩ := HS.out (by omega)
    obtain ⟨xk, xn, xt, xs⟩ := x
    dsimp only at k4 h1 p0 p1 p2 p3
    subst k4; subst h1
    obtain ⟨k, hk, hkb⟩ := intN_num (x := xn) (by simpa [leafR] using hl)
    have HD := Aside0.mk (digits_any xn k hk (by omega) (by omega) w2 (tab_below HT.out HB2.out))
    have HG : Aside0 (GoV ⟨4, xn, xt, 1⟩ (.iface 3 (.int .i64 k))) := ⟨GoV.num _ _ k hk⟩
    have HX : Aside0 (TextOf (.iface 3 (.int .i64 k)) (digitsOf k)) := ⟨TextOf.num k (by omega) (by omega)⟩
    have hc : 1 ≤ c := by simpa using hc
    rw [show ([⟨4, xn, xt, 1⟩] : List V4).length = 1 from rfl] at *
    clear HS hl
    clear hk
    go_wp2_with fail
    refine HD.out.mono ?_
    rintro e w2d ⟨rfl, hb⟩
    have HB2d := Aside0.mk (below_step HB2.out hb)
    clear hb
    go_wp2_with fail
    refine (implString_any ⟨4, xn, xt, 1⟩ ⟨6, 0, (digitsOf k), 1⟩ (.iface 3 (.int .i64 k)) (.iface 9 (.string (digitsOf k))) HG.out (Node.txt (digitsOf k)) (some ad) c w2d hc (Kd.C_below HC.out HB2d.out) (fun W hb => doorString_any (.iface 3 (.int .i64 k)) (digitsOf k) HX.out W (tab_below HT.out (below_step HB2d.out hb)))).mono ?_
    rintro e w3 ⟨u, rfl, h3, hb⟩
    have H3 := Aside0.mk h3
    have HB3 := Aside0.mk (below_step HB2d.out hb)
    clear h3 hb
    go_wp2_with fail
    refine (textValue_any (digitsOf k) w3).mono ?_
    rintro e w4 ⟨u', rfl, h4, hb⟩
    have H3' := Aside0.mk (H3.out.below hb)
    have H4 := Aside0.mk h4
    have HB4 := Aside0.mk (below_step HB3.out hb)
    clear h4 hb
    go_wp2_with fail
    refine (same_one u u' _ _ w4 H3'.out H4.out rfl (by show D.order 0 0 = _; decide) rfl).mono ?_
    rintro e w5 ⟨rfl, hb⟩
    have HB5 := Aside0.mk (below_step HB4.out hb)
    clear hb
    go_wp2_with fail
    go_ret
    exact ⟨rfl, HB5.out⟩
  by_cases k2 : x.kind = 2
  · obtain ⟨rfl, h1, hl⟩ := HS.out (by omega)
    obtain ⟨xk, xn, xt, xs⟩ := x
    dsimp only at k2 h1 p0 p1 p2 p3
    subst k2; subst h1
    have HG : Aside0 (GoV ⟨2, xn, xt, 1⟩ (.iface 4 (.bool true))) := ⟨GoV.tru _ _⟩
    have HX : Aside0 (TextOf (.iface 4 (.bool true)) ⟨#[116, 114, 117, 101]⟩) := ⟨TextOf.tru⟩
    have hc : 1 ≤ c := by simpa using hc
    rw [show ([⟨2, xn, xt, 1⟩] : List V4).length = 1 from rfl] at *
    clear HS hl
    go_wp2_with fail
    refine (implString_any ⟨2, xn, xt, 1⟩ ⟨6, 0, ⟨#[116, 114, 117, 101]⟩, 1⟩ (.iface 4 (.bool true)) (.iface 9 (.string ⟨#[116, 114, 117, 101]⟩)) HG.out (Node.txt ⟨#[116, 114, 117, 101]⟩) (some ad) c w2 hc (Kd.C_below HC.out HB2.out) (fun W hb => doorString_any (.iface 4 (.bool true)) ⟨#[116, 114, 117, 101]⟩ HX.out W (tab_below HT.out (below_step HB2.out hb)))).mono ?_
    rintro e w3 ⟨u, rfl, h3, hb⟩
    have H3 := Aside0.mk h3
    have HB3 := Aside0.mk (below_step HB2.out hb)
    clear h3 hb
    go_wp2_with fail
    refine (textValue_any ⟨#[116, 114, 117, 101]⟩ w3).mono ?_
    rintro e w4 ⟨u', rfl, h4, hb⟩
    have H3' := Aside0.mk (H3.out.below hb)
    have H4 := Aside0.mk h4
    have HB4 := Aside0.mk (below_step HB3.out hb)
    clear h4 hb
    go_wp2_with fail
    refine (same_one u u' _ _ w4 H3'.out H4.out rfl (by show D.order 0 0 = _; decide) rfl).mono ?_
    rintro e w5 ⟨rfl, hb⟩
    have HB5 := Aside0.mk (below_step HB4.out hb)
    clear hb
    go_wp2_with fail
    go_ret
    exact ⟨rfl, HB5.out⟩
  by_cases k3 : x.kind = 3
  · obtain ⟨rfl, h1, hl⟩ := HS.out (by omega)
    obtain ⟨xk, xn, xt, xs⟩ := x
    dsimp only at k3 h1 p0 p1 p2 p3
    subst k3; subst h1
    have HG : Aside0 (GoV ⟨3, xn, xt, 1⟩ (.iface 4 (.bool false))) := ⟨GoV.fls _ _⟩
    have HX : Aside0 (TextOf (.iface 4 (.bool false)) ⟨#[102, 97, 108, 115, 101]⟩) := ⟨TextOf.fls⟩
    have hc : 1 ≤ c := by simpa using hc
    rw [show ([⟨3, xn, xt, 1⟩] : List V4).length = 1 from rfl] at *
    clear HS hl
    go_wp2_with fail
    refine (implString_any ⟨3, xn, xt, 1⟩ ⟨6, 0, ⟨#[102, 97, 108, 115, 101]⟩, 1⟩ (.iface 4 (.bool false)) (.iface 9 (.string ⟨#[102, 97, 108, 115, 101]⟩)) HG.out (Node.txt ⟨#[102, 97, 108, 115, 101]⟩) (some ad) c w2 hc (Kd.C_below HC.out HB2.out) (fun W hb => doorString_any (.iface 4 (.bool false)) ⟨#[102, 97, 108, 115, 101]⟩ HX.out W (tab_below HT.out (below_step HB2.out hb)))).mono ?_
    rintro e w3 ⟨u, rfl, h3, hb⟩
    have H3 := Aside0.mk h3
    have HB3 := Aside0.mk (below_step HB2.out hb)
    clear h3 hb
    go_wp2_with fail
    refine (textValue_any ⟨#[102, 97, 108, 115, 101]⟩ w3).mono ?_
    rintro e w4 ⟨u', rfl, h4, hb⟩
    have H3' := Aside0.mk (H3.out.below hb)
    have H4 := Aside0.mk h4
    have HB4 := Aside0.mk (below_step HB3.out hb)
    clear h4 hb
    go_wp2_with fail
    refine (same_one u u' _ _ w4 H3'.out H4.out rfl (by show D.order 0 0 = _; decide) rfl).mono ?_
    rintro e w5 ⟨rfl, hb⟩
    have HB5 := Aside0.mk (below_step HB4.out hb)
    clear hb
    go_wp2_with fail
    go_ret
    exact ⟨rfl, HB5.out⟩
  obtain ⟨xk, xn, xt, xs⟩ := x
  dsimp only at k6 k4 k2 k3 p0 p1 p2 p3
  have k6' : (xk == 6) = false := beq_eq_false_iff_ne.2 k6
  have k4' : (xk == 4) = false := beq_eq_false_iff_ne.2 k4
  have k2' : (xk == 2) = false := beq_eq_false_iff_ne.2 k2
  have k3' : (xk == 3) = false := beq_eq_false_iff_ne.2 k3
  go_wp2_with fail
  go_ret
  exact ⟨rfl, HB2.out⟩
end Go.Proofs.YtdcfbgpcpjjjaaaGreatDoor.Co
