/-
  The law FnCoerceInt, walked: it is true of all data.
-/
import Derived.Test.YtdcfbgpcpjjjaaaGreatDoorCn
import Derived.Test.YtdcfbgpcpjjjaaaGreatDoorCp
namespace Go.Proofs.YtdcfbgpcpjjjaaaGreatDoor.Co
open Go.RowKit Go.Proofs.YtdcfbgpcpjjjaaaGreatDoorW.PrintWords Go.Proofs.YtdcfbgpcpjjjaaaGreatDoorW.PrintLast Go.Proofs.YtdcfbgpcpjjjaaaGreatDoorW.PrintMore
open Go.Proofs.YtdcfbgpcpjjjaaaGreatDoor.Fl Go.Proofs.YtdcfbgpcpjjjaaaGreatDoor.Dr Go.Proofs.YtdcfbgpcpjjjaaaGreatDoor.PFnCoerceString
set_option linter.unusedVariables false
set_option linter.unusedSimpArgs false
attribute [local go_sem] run_store_float
/-- The number that a value says. -/
def numberOf (x : V4) : Option Nat := if x.kind = 4 ∨ x.kind = 5 then some x.num else if x.kind = 2 then some 4607182418800017408 else if x.kind = 3 then some 0 else none
set_option maxHeartbeats 4000000 in
theorem number7_any (v : List V4) (A : Option Addr) (c : Nat) (w : World) (hC : Kd.C k27 w A v.length v) (h0 : 0 < v.length) :
    Calls Tryz.prog 11 #[.slice A v.length c] w fun e w' => e = .returned (.tuple #[.float .f64 ((numberOf (rd27 v 0)).getD 0), .bool (numberOf (rd27 v 0)).isSome]) ∧ w' = w := by
  obtain ⟨ad, rfl, p0, p1, p2, p3⟩ := at0_27 hC h0
  have hlt : (0 : Int) < (v.length : Int) := by omega
  clear hC
  generalize rd27 v 0 = x at *
  obtain ⟨xk, xn, xt, xs⟩ := x
  dsimp only at p0 p1 p2 p3
  by_cases k4 : xk = 4
  · subst k4
    go_enter Tryz.func11, Tryz.ntmps11
    go_wp2_with fail
    go_ret2
    exact ⟨rfl, rfl⟩
  by_cases k5 : xk = 5
  · subst k5
    go_enter Tryz.func11, Tryz.ntmps11
    go_wp2_with fail
    go_ret2
    exact ⟨rfl, rfl⟩
  by_cases k2 : xk = 2
  · subst k2
    go_enter Tryz.func11, Tryz.ntmps11
    go_wp2_with fail
    go_ret2
    exact ⟨rfl, rfl⟩
  by_cases k3 : xk = 3
  · subst k3
    go_enter Tryz.func11, Tryz.ntmps11
    go_wp2_with fail
    go_ret2
    exact ⟨rfl, rfl⟩
  have e : numberOf ⟨xk, xn, xt, xs⟩ = none := by simp [numberOf, k4, k5, k2, k3]
  rw [e]
  have k4' : (xk == 4) = false := beq_eq_false_iff_ne.2 k4
  have k5' : (xk == 5) = false := beq_eq_false_iff_ne.2 k5
  have k2' : (xk == 2) = false := beq_eq_false_iff_ne.2 k2
  have k3' : (xk == 3) = false := beq_eq_false_iff_ne.2 k3
  clear e
  go_enter Tryz.func11, Tryz.ntmps11
  go_wp2_with fail
  go_ret2
  exact ⟨rfl, rfl⟩
set_option maxHeartbeats 4000000 in
theorem numberValue_any (n : Nat) (w : World) : Calls Tryz.prog 13 #[.int .i64 4, .float .f64 n] w fun e w' => ∃ v, e = .returned v ∧ Is1 w' v ⟨4, n, ⟨#[]⟩, 1⟩ ∧ Below w.heap.size w w' := by
  have HF : Aside0 (Is1 (w.alloc (.cells #[.int .i64 4, .float .f64 n, .string ⟨#[]⟩, .int .i64 1] 27)) (.slice (some ⟨w.heap.size, 0, none⟩) 1 1) ⟨4, n, ⟨#[]⟩, 1⟩) := ⟨is1_blk (Nat.le_refl _) (blk_new w _)⟩
  go_enter Tryz.func13, Tryz.ntmps13
  go_wp2_with fail
  go_ret
  exact ⟨_, rfl, HF.out, below_one _ _⟩
theorem intN_nan {x : Nat} (h : intN x = true) : (D.read x).isNaN = false := by
  cases hb : (D.read x).isNaN with
  | false => rfl
  | true =>
    unfold intN at h
    rw [show wholeN x = false from nan_order hb _] at h
    cases h
theorem finN_nan {x : Nat} (h : finN x = true) : (D.read x).isNaN = false := by
  cases hb : (D.read x).isNaN with
  | false => rfl
  | true =>
    unfold finN nanN at h
    have e := nan_order hb x
    have e : (D.order x x == some .eq) = false := e
    have e2 : (D.order x x != some .eq) = true := by rw [bne, e]; rfl
    rw [e2] at h
    cases h
/-- A number within the bounds: what the package makes of it, what the reference asks for. -/
structure Num32 (x : V4) (V : Value) (n : Nat) (k : Int) : Prop where
  go : GoV x V
  int : IntOf V k
  num : numberOf x = some n
  nan : (Fl.D.read n).isNaN = false
  und : under32 n = false
  ovr : over32 n = false
  h0 : -2147483648 ≤ k
  h1 : k ≤ 2147483647
  add : Fl.D.add (cutW n) 0 = some (wordOf k)
theorem num32 {v : List V4} {x : V4} (hK : Known v x) {n : Nat} (hn : numberOf x = some n) (hu : under32 n = false) (ho : over32 n = false) : ∃ V k, Num32 x V n k := by
  obtain ⟨-, hs, hl⟩ := hK
  obtain ⟨xk, xn, xt, xs⟩ := x
  dsimp only at hs hl
  subst hs
  by_cases k4 : xk = 4
  · subst k4
    obtain rfl : xn = n := by simpa [numberOf] using hn
    have hi : intN xn = true := by simpa [leafR] using hl
    obtain ⟨k, hk, h0, h1, ha⟩ := in32 (intN_nan hi) hu ho
    exact ⟨_, k, GoV.num _ _ k hk, IntOf.num k h0 h1, hn, intN_nan hi, hu, ho, h0, h1, ha⟩
  by_cases k5 : xk = 5
  · subst k5
    obtain rfl : xn = n := by simpa [numberOf] using hn
    have hi : finN xn = true := by simpa [leafR] using hl
    obtain ⟨k, hk, h0, h1, ha⟩ := in32 (finN_nan hi) hu ho
    exact ⟨_, k, GoV.flt _ _, IntOf.flt _ k hu ho hk, hn, finN_nan hi, hu, ho, h0, h1, ha⟩
  by_cases k2 : xk = 2
  · subst k2
    obtain rfl : 4607182418800017408 = n := by simpa [numberOf] using hn
    exact ⟨_, 1, GoV.tru _ _, IntOf.tru, hn, by decide +kernel, hu, ho, by decide, by decide, by decide +kernel⟩
  by_cases k3 : xk = 3
  · subst k3
    obtain rfl : 0 = n := by simpa [numberOf] using hn
    exact ⟨_, 0, GoV.fls _ _, IntOf.fls, hn, by decide +kernel, hu, ho, by decide, by decide, by decide +kernel⟩
  · simp [numberOf, k4, k5, k2, k3] at hn
set_option maxHeartbeats 40000000 in
theorem lawInt_any (v : List V4) (A : Option Addr) (c : Nat) (w : World) (hC : Kd.C k27 w A v.length v) (hc : v.length ≤ c) (hw : ∀ x, x ∈ v → x.wf) :
    Calls Tryz.prog 4 #[.slice A v.length c] w fun e w' => e = .returned (.bool true) ∧ Below w.heap.size w w' := by
  have HC := Aside0.mk hC
  have HW := Aside0.mk hw
  clear hC hw
  go_enter Tryz.func4, Tryz.ntmps4
  go_wp2_with fail
  refine (fits4_any v A c w HC.out hc).mono ?_
  rintro e w1 ⟨⟨b, rfl⟩, hb⟩
  have HB1 := Aside0.mk hb
  clear hb
  cases b with
  | false =>
    go_wp2_with fail
    go_ret
    exact ⟨rfl, HB1.out⟩
  | true =>
  go_wp2_with fail
  refine (dataRight_any v A c false w1 (Kd.C_below HC.out HB1.out) hc HW.out).mono ?_
  rintro e w2 ⟨⟨b, rfl, hs⟩, hb⟩
  have HB2 := Aside0.mk (below_step HB1.out hb)
  clear hb
  cases b with
  | false =>
    go_wp2_with fail
    go_ret
    exact ⟨rfl, HB2.out⟩
  | true =>
  obtain ⟨h0, h3, ht⟩ := hs rfl
  have HTP := Aside0.mk ht
  clear hs ht
  go_wp2_with fail
  refine (number7_any v A c w2 (Kd.C_below HC.out HB2.out) h0).mono ?_
  rintro e w2' ⟨rfl, rfl⟩
  obtain ⟨x, hx⟩ : ∃ x, x = rd27 v 0 := ⟨_, rfl⟩
  have HS : Aside0 ((numberOf x).isSome = true → Known v x) := ⟨fun hk => by
    have h7 : x.kind = 2 ∨ x.kind = 3 ∨ x.kind = 4 ∨ x.kind = 5 := by
      unfold numberOf at hk
      split at hk
      · omega
      · split at hk
        · omega
        · split at hk
          · omega
          · cases hk
    exact known hx h0 (HTP.out (by rw [← hx]; omega) (by rw [← hx]; omega)) (by omega)⟩
  rw [← hx]
  clear hx HTP
  cases hN : numberOf x with
  | none =>
    dsimp only [Option.getD, Option.isSome]
    go_wp2_with fail
    go_ret
    exact ⟨rfl, HB2.out⟩
  | some n =>
  dsimp only [Option.getD, Option.isSome]
  cases hu : under32 n with
  | true =>
    have hu' : (FloatKind.f64.format.order n 13970166044103278592 == some Ordering.lt) = true := hu
    clear HS hu
    go_wp2_with fail
    go_ret
    exact ⟨rfl, HB2.out⟩
  | false =>
  cases ho : over32 n with
  | true =>
    have hu' : (FloatKind.f64.format.order n 13970166044103278592 == some Ordering.lt) = false := hu
    have ho' : (FloatKind.f64.format.order n 4746794007244308480 == some Ordering.gt) = true := ho
    clear HS hu ho
    go_wp2_with fail
    go_ret
    exact ⟨rfl, HB2.out⟩
  | false =>
  have hK := HS.out (by rw [hN]; rfl)
  obtain ⟨V, k, hM⟩ := num32 hK hN hu ho
  obtain ⟨rfl, -, -⟩ := hK
  have HM := Aside0.mk hM
  have hu' : (FloatKind.f64.format.order n 13970166044103278592 == some Ordering.lt) = false := hu
  have ho' : (FloatKind.f64.format.order n 4746794007244308480 == some Ordering.gt) = false := ho
  have hc1 : 1 ≤ c := by simpa using hc
  rw [show ([x] : List V4).length = 1 from rfl] at *
  clear hM HS hN hu ho
  have hadd : ∀ W : World, (binOp .add 25 (.float .f64 (cutW n)) (.float .f64 0)).run Tryz.prog W = .ok (.float .f64 (wordOf k)) W := fun W => run_float_arith W .add 25 .f64 (cutW n) 0 (wordOf k) HM.out.add
  go_wp2_with fail
  refine (implInt_any x ⟨4, FloatKind.f64.nearest k, ⟨#[]⟩, 1⟩ V (.iface 3 (.int .i64 k)) HM.out.go (Node.int k) A c w2' hc1 (Kd.C_below HC.out HB2.out) (fun W hb => doorInt_any V k HM.out.int W)).mono ?_
  rintro e w3 ⟨u, rfl, h3, hb⟩
  have H3 := Aside0.mk h3
  have HB3 := Aside0.mk (below_step HB2.out hb)
  clear h3 hb
  go_wp2_with fail
  refine (trunc_n n HM.out.nan w3).mono ?_
  rintro e w4 ⟨m, rfl, rfl⟩
  have HB3' := Aside0.mk (pw_below_drewN HB3.out m)
  have H3' := Aside0.mk (H3.out.below (pw_below_drewN (Below.refl _ _) m))
  go_wp2_with fail
  refine (numberValue_any (wordOf k) _).mono ?_
  rintro e w5 ⟨u', rfl, h4, hb⟩
  have H3'' := Aside0.mk (H3'.out.below hb)
  have H4 := Aside0.mk h4
  have HB4 := Aside0.mk (below_step HB3'.out hb)
  clear h4 hb
  have hkb : k.natAbs < 2 ^ 53 := by have := HM.out.h0; have := HM.out.h1; omega
  have ho : Fl.D.order (FloatKind.f64.nearest k) (wordOf k) = some .eq := by rw [nearest_int k hkb]; exact order_word k hkb
  go_wp2_with fail
  refine (same_one u u' _ _ w5 H3''.out H4.out rfl ho rfl).mono ?_
  rintro e w6 ⟨rfl, hb⟩
  have HB5 := Aside0.mk (below_step HB4.out hb)
  clear hb
  go_wp2_with fail
  go_ret
  exact ⟨rfl, HB5.out⟩
end Go.Proofs.YtdcfbgpcpjjjaaaGreatDoor.Co
