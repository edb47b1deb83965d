import Derived.Test.YtbobbognjmofdaaGreatDoorV04
import Derived.Test.YtbobbognjmofdaaGreatDoorV05
section
section
namespace Go.Proofs.YtbobbognjmofdaaGreatDoor.PFnTokens
open Go.RowKit Go.Proofs.YtbobbognjmofdaaGreatDoorW.PrintWords Go.Proofs.YtbobbognjmofdaaGreatDoorW.PrintLast Go.Proofs.YtbobbognjmofdaaGreatDoorW.PrintMore
attribute [local go_sem] max2_int min2_int max_two min_two
set_option linter.unusedVariables false
set_option linter.unusedSimpArgs false
mutual
def spec_plainBlock.j0:Nat → List ByteArray → Int → Bool → Option (Bool)
 | 0,_,_,_=>none
 | k + 1,x3,x4,x22=>if x22 = true then (some false) else (spec_plainBlock.l0 k x3 x4 1)
def spec_plainBlock.l0:Nat → List ByteArray → Int → Int → Option (Bool)
 | 0,_,_,_=>none
 | k + 1,x3,x4,x5=>if x5 < (x3.length:Int) then (if 0 ≤ x5 then ((spec_leading.f k (rdOf ByteArray.empty x3 x5)).bind fun t202=>(if t202 = ((rdOf ByteArray.empty x3 x5).size:Int) then (if ((rdOf ByteArray.empty x3 x5).size:Int) > 0 then (if ((rdOf ByteArray.empty x3 x5).size:Int) < x4 then (some false) else (spec_plainBlock.l0 k x3 x4 (wrap64 (x5 + 1)))) else (spec_plainBlock.l0 k x3 x4 (wrap64 (x5 + 1)))) else (spec_plainBlock.l0 k x3 x4 (wrap64 (x5 + 1))))) else (none)) else (some true)
end
def spec_plainBlock.f (k:Nat) (a0:ByteArray):Option (Bool):=(spec_Lines.f k a0).bind fun t194=>((spec_common.f k t194).bind fun t197=>(if t197 > 0 then (if 0 < (t194.length:Int) then ((spec_leading.f k (rdOf ByteArray.empty t194 0)).bind fun t199=>(spec_plainBlock.j0 k t194 t197 (decide (t199 < ((rdOf ByteArray.empty t194 0).size:Int))))) else (none)) else (spec_plainBlock.j0 k t194 t197 false)))
set_option maxHeartbeats 8000000 in
set_option maxRecDepth 100000 in
theorem spec_plainBlock.calls (k:Nat) (a0:ByteArray) (r:Bool) (w:World) (h:spec_plainBlock.f k a0 = some r) :
  Calls Tryz.prog 103 #[.string a0] w fun e w'=>e = .returned (.bool r) ∧ Below w.heap.size w w':=by
 have HB:=Aside0.mk (Below.refl w.heap.size w)
 have H:((spec_Lines.f k a0).bind fun t194=>((spec_common.f k t194).bind fun t197=>(if t197 > 0 then (if 0 < (t194.length:Int) then ((spec_leading.f k (rdOf ByteArray.empty t194 0)).bind fun t199=>(spec_plainBlock.j0 k t194 t197 (decide (t199 < ((rdOf ByteArray.empty t194 0).size:Int))))) else (none)) else (spec_plainBlock.j0 k t194 t197 false)))) = some r:=h
 clear h
 replace H:=Option.bind_eq_some_iff.mp H
 obtain ⟨t194,A20,H⟩:=H
 replace H:((spec_common.f k t194).bind fun t197=>(if t197 > 0 then (if 0 < (t194.length:Int) then ((spec_leading.f k (rdOf ByteArray.empty t194 0)).bind fun t199=>(spec_plainBlock.j0 k t194 t197 (decide (t199 < ((rdOf ByteArray.empty t194 0).size:Int))))) else (none)) else (spec_plainBlock.j0 k t194 t197 false))) = some r:=H
 have A2:=Aside0.mk A20
 clear A20
 replace H:=Option.bind_eq_some_iff.mp H
 obtain ⟨t197,A30,H⟩:=H
 replace H:(if t197 > 0 then (if 0 < (t194.length:Int) then ((spec_leading.f k (rdOf ByteArray.empty t194 0)).bind fun t199=>(spec_plainBlock.j0 k t194 t197 (decide (t199 < ((rdOf ByteArray.empty t194 0).size:Int))))) else (none)) else (spec_plainBlock.j0 k t194 t197 false)) = some r:=H
 have A3:=Aside0.mk A30
 clear A30
 have HC4:=Aside0.mk H
 clear H
 go_enter Tryz.func103,Tryz.ntmps103
 go_upto_region 3 with (first | (go_at_call 145;(with_reducible refine (spec_Lines.calls k a0 t194 _ A2.out).mono ?_);rintro e w5 ⟨v195,rfl,ho0,hb⟩;have n0_:=Aside0.mk (Kd.R_lower ho0 (below_size (by repeat (first | (with_reducible first | exact HB.out | apply below_alloc | apply pw_below_drewN | apply below_drew1) | exact HB.out))));have n1_:=Aside0.mk (below_step (by repeat (first | (with_reducible first | exact HB.out | apply below_alloc | apply pw_below_drewN | apply below_drew1) | exact HB.out)) hb);clear HB;have HO196:=n0_;have HB:=n1_;clear n0_ n1_;(try clear hb);(try clear hb2);(try clear hk);(try clear hi);(try clear ho0);obtain ⟨Ao6,co6,eo6⟩:=Kd.R_slice HO196.out;subst eo6) | (go_at_call 146;(with_reducible refine (spec_common.calls k _ _ t194 t197 _ ?side1 ?side2 A3.out).mono ?_);(case side1=>repeat (first | exact (Kd.R_reads' HO196.out).2.2 | (with_reducible refine Kd.C_alloc ?_ _) | (with_reducible refine Kd.C_drewN ?_ _) | (with_reducible refine Kd.C_drew ?_)));(case side2=>exact (Kd.R_reads' HO196.out).2.1);rintro e w7 ⟨rfl,hb⟩;have n0_:=Aside0.mk (Kd.R_below (by (with_reducible repeat (first | apply Kd.R_alloc | apply Kd.R_drewN | apply Kd.R_drew));exact HO196.out) hb);have n1_:=Aside0.mk (below_step (by repeat (first | (with_reducible first | exact HB.out | apply below_alloc | apply pw_below_drewN | apply below_drew1) | exact HB.out)) hb);clear HO196;clear HB;have HO196:=n0_;have HB:=n1_;clear n0_ n1_;(try clear hb);(try clear hb2);(try clear hk);(try clear hi)))
 repeat (go_quiet (first | (go_at_call 145;(with_reducible refine (spec_Lines.calls k a0 t194 _ A2.out).mono ?_);rintro e w5 ⟨v195,rfl,ho0,hb⟩;have n0_:=Aside0.mk (Kd.R_lower ho0 (below_size (by repeat (first | (with_reducible first | exact HB.out | apply below_alloc | apply pw_below_drewN | apply below_drew1) | exact HB.out))));have n1_:=Aside0.mk (below_step (by repeat (first | (with_reducible first | exact HB.out | apply below_alloc | apply pw_below_drewN | apply below_drew1) | exact HB.out)) hb);clear HB;have HO196:=n0_;have HB:=n1_;clear n0_ n1_;(try clear hb);(try clear hb2);(try clear hk);(try clear hi);(try clear ho0);obtain ⟨Ao6,co6,eo6⟩:=Kd.R_slice HO196.out;subst eo6) | (go_at_call 146;(with_reducible refine (spec_common.calls k _ _ t194 t197 _ ?side1 ?side2 A3.out).mono ?_);(case side1=>repeat (first | exact (Kd.R_reads' HO196.out).2.2 | (with_reducible refine Kd.C_alloc ?_ _) | (with_reducible refine Kd.C_drewN ?_ _) | (with_reducible refine Kd.C_drew ?_)));(case side2=>exact (Kd.R_reads' HO196.out).2.1);rintro e w7 ⟨rfl,hb⟩;have n0_:=Aside0.mk (Kd.R_below (by (with_reducible repeat (first | apply Kd.R_alloc | apply Kd.R_drewN | apply Kd.R_drew));exact HO196.out) hb);have n1_:=Aside0.mk (below_step (by repeat (first | (with_reducible first | exact HB.out | apply below_alloc | apply pw_below_drewN | apply below_drew1) | exact HB.out)) hb);clear HO196;clear HB;have HO196:=n0_;have HB:=n1_;clear n0_ n1_;(try clear hb);(try clear hb2);(try clear hk);(try clear hi)));go_upto_region 3 with (first | (go_at_call 145;(with_reducible refine (spec_Lines.calls k a0 t194 _ A2.out).mono ?_);rintro e w5 ⟨v195,rfl,ho0,hb⟩;have n0_:=Aside0.mk (Kd.R_lower ho0 (below_size (by repeat (first | (with_reducible first | exact HB.out | apply below_alloc | apply pw_below_drewN | apply below_drew1) | exact HB.out))));have n1_:=Aside0.mk (below_step (by repeat (first | (with_reducible first | exact HB.out | apply below_alloc | apply pw_below_drewN | apply below_drew1) | exact HB.out)) hb);clear HB;have HO196:=n0_;have HB:=n1_;clear n0_ n1_;(try clear hb);(try clear hb2);(try clear hk);(try clear hi);(try clear ho0);obtain ⟨Ao6,co6,eo6⟩:=Kd.R_slice HO196.out;subst eo6) | (go_at_call 146;(with_reducible refine (spec_common.calls k _ _ t194 t197 _ ?side1 ?side2 A3.out).mono ?_);(case side1=>repeat (first | exact (Kd.R_reads' HO196.out).2.2 | (with_reducible refine Kd.C_alloc ?_ _) | (with_reducible refine Kd.C_drewN ?_ _) | (with_reducible refine Kd.C_drew ?_)));(case side2=>exact (Kd.R_reads' HO196.out).2.1);rintro e w7 ⟨rfl,hb⟩;have n0_:=Aside0.mk (Kd.R_below (by (with_reducible repeat (first | apply Kd.R_alloc | apply Kd.R_drewN | apply Kd.R_drew));exact HO196.out) hb);have n1_:=Aside0.mk (below_step (by repeat (first | (with_reducible first | exact HB.out | apply below_alloc | apply pw_below_drewN | apply below_drew1) | exact HB.out)) hb);clear HO196;clear HB;have HO196:=n0_;have HB:=n1_;clear n0_ n1_;(try clear hb);(try clear hb2);(try clear hk);(try clear hi))))
 (try simp only [Act.put,List.setIfInBounds_toArray,List.set_cons_zero,List.set_cons_succ])
 go_cut [22] (fun v22 wc=>∃ (kq:Nat) (x22_3:Bool),v22 = .bool x22_3 ∧ Aside0 (spec_plainBlock.j0 kq t194 t197 x22_3 = some r) ∧ Aside0 (kq ≤ k) ∧ Aside0 (Kd.R Kd.string 9 wc w.heap.size (fun _=>True) (.slice Ao6 t194.length co6) t194) ∧ Aside0 (Below w.heap.size w wc))
 case first=>
  have H:=HC4.out
  clear HC4
  by_cases c8:t197 > 0
  ·rw [if_pos c8] at H
   have c8b0:decide (0 < t197) = true:=decide_eq_true c8
   clear c8
   (first | rw [c8b0] | (simp only [i64_w,i32_w];rw [c8b0]) | skip)
   by_cases c9:0 < (t194.length:Int)
   ·rw [if_pos c9] at H
    have c9b0:decide (0 < (t194.length:Int)) = true:=decide_eq_true c9
    have c9b1:decide (0 < t194.length) = true:=decide_eq_true (by omega)
    clear c9
    replace H:=Option.bind_eq_some_iff.mp H
    obtain ⟨t199,A100,H⟩:=H
    replace H:(spec_plainBlock.j0 k t194 t197 (decide (t199 < ((rdOf ByteArray.empty t194 0).size:Int)))) = some r:=H
    have A10:=Aside0.mk A100
    clear A100
    have H':=Aside0.mk H
    clear H
    have p198:0 ≤ (0:Int):=(by omega)
    have q198:0 < (t194.length:Int):=of_decide_eq_true (by first | (with_reducible assumption) | assumption)
    obtain ⟨ad198,e198,hx198_0⟩:=Kd.at_string (Kd.R_reads' HO196.out).2.2 0 p198 q198
    cases e198
    have qi198:(0 < t194.length) = True:=eq_true (by omega)
    (try rw [show ((0:Int)).toNat = 0 from rfl] at hx198_0)
    (try rw [Addr.add_zero'] at hx198_0)
    replace p198:=eq_true p198
    replace q198:=eq_true q198
    go_wp2_with (first | (go_at_call 147;(with_reducible refine (spec_leading.calls k (rdOf ByteArray.empty t194 0) t199 _ A10.out).mono ?_);rintro e w' ⟨rfl,⟨nd,rfl⟩⟩;(try first | exact ⟨rfl,_,World.drewN_drewN _ _ _⟩ | exact ⟨rfl,_,Eq.trans (World.drewN_drewN _ _ _) (congrArg (World.drewN _) (Nat.add_assoc _ _ _))⟩);have p200:0 ≤ (0:Int):=(by omega);have q200:0 < (t194.length:Int):=of_decide_eq_true (by first | (with_reducible assumption) | assumption);obtain ⟨ad200,e200,hx200_0⟩:=Kd.at_string (Kd.R_reads' HO196.out).2.2 0 p200 q200;obtain rfl:ad198 = ad200:=(by injection e200);have qi200:(0 < t194.length) = True:=eq_true (by omega);(try rw [show ((0:Int)).toNat = 0 from rfl] at hx200_0);(try rw [Addr.add_zero'] at hx200_0);replace p200:=eq_true p200;replace q200:=eq_true q200))
    repeat (go_quiet (first | (go_at_call 147;(with_reducible refine (spec_leading.calls k (rdOf ByteArray.empty t194 0) t199 _ A10.out).mono ?_);rintro e w' ⟨rfl,⟨nd,rfl⟩⟩;(try first | exact ⟨rfl,_,World.drewN_drewN _ _ _⟩ | exact ⟨rfl,_,Eq.trans (World.drewN_drewN _ _ _) (congrArg (World.drewN _) (Nat.add_assoc _ _ _))⟩);have p200:0 ≤ (0:Int):=(by omega);have q200:0 < (t194.length:Int):=of_decide_eq_true (by first | (with_reducible assumption) | assumption);obtain ⟨ad200,e200,hx200_0⟩:=Kd.at_string (Kd.R_reads' HO196.out).2.2 0 p200 q200;obtain rfl:ad198 = ad200:=(by injection e200);have qi200:(0 < t194.length) = True:=eq_true (by omega);(try rw [show ((0:Int)).toNat = 0 from rfl] at hx200_0);(try rw [Addr.add_zero'] at hx200_0);replace p200:=eq_true p200;replace q200:=eq_true q200));try go_wp2_with (first | (go_at_call 147;(with_reducible refine (spec_leading.calls k (rdOf ByteArray.empty t194 0) t199 _ A10.out).mono ?_);rintro e w' ⟨rfl,⟨nd,rfl⟩⟩;(try first | exact ⟨rfl,_,World.drewN_drewN _ _ _⟩ | exact ⟨rfl,_,Eq.trans (World.drewN_drewN _ _ _) (congrArg (World.drewN _) (Nat.add_assoc _ _ _))⟩);have p200:0 ≤ (0:Int):=(by omega);have q200:0 < (t194.length:Int):=of_decide_eq_true (by first | (with_reducible assumption) | assumption);obtain ⟨ad200,e200,hx200_0⟩:=Kd.at_string (Kd.R_reads' HO196.out).2.2 0 p200 q200;obtain rfl:ad198 = ad200:=(by injection e200);have qi200:(0 < t194.length) = True:=eq_true (by omega);(try rw [show ((0:Int)).toNat = 0 from rfl] at hx200_0);(try rw [Addr.add_zero'] at hx200_0);replace p200:=eq_true p200;replace q200:=eq_true q200)))
    go_meet
    case rel=>exact ⟨_,(decide (t199 < ((rdOf ByteArray.empty t194 0).size:Int))),(by first | rfl | (simp;done) | (simp [*];done)),H',⟨by first | omega | exact Nat.le_refl _⟩,⟨by (with_reducible repeat (first | apply Kd.R_alloc | apply Kd.R_drewN | apply Kd.R_drew));exact HO196.out⟩,⟨by repeat (first | (with_reducible first | exact HB.out | apply below_alloc | apply pw_below_drewN | apply below_drew1) | exact HB.out)⟩⟩
   ·rw [if_neg c9] at H
    exact absurd H (by simp)
  ·rw [if_neg c8] at H
   have c8b0:decide (0 < t197) = false:=decide_eq_false c8
   clear c8
   (first | rw [c8b0] | (simp only [i64_w,i32_w];rw [c8b0]) | skip)
   have H':=Aside0.mk H
   clear H
   go_wp2
   repeat (go_quiet (fail);try go_wp2)
   go_meet
   case rel=>exact ⟨_,(false),(by first | rfl | (simp;done) | (simp [*];done)),H',⟨by first | omega | exact Nat.le_refl _⟩,⟨by (with_reducible repeat (first | apply Kd.R_alloc | apply Kd.R_drewN | apply Kd.R_drew));exact HO196.out⟩,⟨by repeat (first | (with_reducible first | exact HB.out | apply below_alloc | apply pw_below_drewN | apply below_drew1) | exact HB.out)⟩⟩
 case rest=>
  clear HC4
  try clear c1
  try clear p1
  try clear q1
  try clear hx1
  try clear qi1
  try clear p2
  try clear q2
  try clear hx2
  try clear qi2
  try clear c8
  try clear c8b0
  try clear c9
  try clear c9b0
  try clear c9b1
  try clear c10
  try clear hx198_0
  try clear hx200_0
  try clear p198
  try clear p200
  try clear q198
  try clear q200
  obtain ⟨kq,x22_3,rfl,HA,HJ3,HO_3,HB⟩:=hcut
  cases kq with
  | zero=>exact absurd HA.out (by simp [spec_plainBlock.j0])
  | succ kj3=>
   have H:=HA.out
   clear HA
   simp only [spec_plainBlock.j0] at H
   by_cases c11:x22_3 = true
   ·subst c11
    have H1:(some false) = some r:=by rw [if_pos rfl] at H;exact H
    clear H
    have H:=H1
    clear H1
    obtain rfl:=Option.some.inj H
    go_wp2
    repeat (go_quiet (fail);try go_wp2)
    go_ret
    exact ⟨by first | rfl | (simp [errW_none,errW_some] <;> rfl) | (simp [*,errW_none,errW_some] <;> rfl),by repeat (first | (with_reducible first | exact HB.out | apply below_alloc | apply pw_below_drewN | apply below_drew1) | exact HB.out)⟩
   ·replace c11:=Bool.eq_false_iff.mpr c11
    subst c11
    have H1:(spec_plainBlock.l0 kj3 t194 t197 1) = some r:=by rw [if_neg (show ¬ (false = true) by decide)] at H;exact H
    clear H
    have H:=H1
    clear H1
    have H':=Aside0.mk H
    clear H
    go_wp2
    repeat (go_quiet (fail);try go_wp2)
    go_loopg [5] kj3 (fun kq v5 w'=>∃ (x5_2:Int),v5 = .int .i64 x5_2 ∧ Aside0 (spec_plainBlock.l0 kq t194 t197 x5_2 = some r) ∧ Aside0 (kq ≤ kj3) ∧ Aside0 (Kd.R Kd.string 9 w' w.heap.size (fun _=>True) (.slice Ao6 t194.length co6) t194) ∧ Aside0 (Below w.heap.size w w'))
    case atStart=>exact ⟨(1),(by first | rfl | (simp;done) | (simp [*];done)),H',⟨Nat.le_refl _⟩,⟨by (with_reducible repeat (first | apply Kd.R_alloc | apply Kd.R_drewN | apply Kd.R_drew));exact HO_3.out⟩,⟨by repeat (first | (with_reducible first | exact HB.out | apply below_alloc | apply pw_below_drewN | apply below_drew1) | exact HB.out)⟩⟩
    case round=>
     clear H'
     try clear c1
     try clear p1
     try clear q1
     try clear hx1
     try clear qi1
     try clear p2
     try clear q2
     try clear hx2
     try clear qi2
     try clear c8
     try clear c8b0
     try clear c9
     try clear c9b0
     try clear c9b1
     try clear c10
     try clear c11
     try clear hx198_0
     try clear hx200_0
     try clear p1
     try clear p198
     try clear p2
     try clear p200
     try clear q1
     try clear q198
     try clear q2
     try clear q200
     obtain ⟨x5_2,rfl,HA,HK2,HO_3,HB⟩:=hrel
     cases gk with
     | zero=>exact absurd HA.out (by simp [spec_plainBlock.l0])
     | succ k2=>
      have H:=HA.out
      clear HA
      simp only [spec_plainBlock.l0] at H
      by_cases c12:x5_2 < (t194.length:Int)
      ·rw [if_pos c12] at H
       have c12b0:decide (x5_2 < (t194.length:Int)) = true:=decide_eq_true c12
       clear c12
       by_cases c13:0 ≤ x5_2
       ·rw [if_pos c13] at H
        have c13b0:decide (0 ≤ x5_2) = true:=decide_eq_true c13
        clear c13
        replace H:=Option.bind_eq_some_iff.mp H
        obtain ⟨t202,A140,H⟩:=H
        replace H:(if t202 = ((rdOf ByteArray.empty t194 x5_2).size:Int) then (if ((rdOf ByteArray.empty t194 x5_2).size:Int) > 0 then (if ((rdOf ByteArray.empty t194 x5_2).size:Int) < t197 then (some false) else (spec_plainBlock.l0 k2 t194 t197 (wrap64 (x5_2 + 1)))) else (spec_plainBlock.l0 k2 t194 t197 (wrap64 (x5_2 + 1)))) else (spec_plainBlock.l0 k2 t194 t197 (wrap64 (x5_2 + 1)))) = some r:=H
        have A14:=Aside0.mk A140
        clear A140
        by_cases c15:t202 = ((rdOf ByteArray.empty t194 x5_2).size:Int)
        ·rw [if_pos c15] at H
         have c15b0:(t202 == ((rdOf ByteArray.empty t194 x5_2).size:Int)) = true:=beq_iff_eq.mpr c15
         have c15b1:(t202 != ((rdOf ByteArray.empty t194 x5_2).size:Int)) = false:=bne_eq_false_iff_eq.mpr c15
         clear c15
         by_cases c16:((rdOf ByteArray.empty t194 x5_2).size:Int) > 0
         ·rw [if_pos c16] at H
          have c16b0:decide (0 < ((rdOf ByteArray.empty t194 x5_2).size:Int)) = true:=decide_eq_true c16
          have c16b1:decide (0 < (rdOf ByteArray.empty t194 x5_2).size) = true:=decide_eq_true (by omega)
          clear c16
          by_cases c17:((rdOf ByteArray.empty t194 x5_2).size:Int) < t197
          ·rw [if_pos c17] at H
           have c17b0:decide (((rdOf ByteArray.empty t194 x5_2).size:Int) < t197) = true:=decide_eq_true c17
           clear c17
           obtain rfl:=Option.some.inj H
           have p201:0 ≤ (x5_2:Int):=of_decide_eq_true (by first | (with_reducible assumption) | assumption)
           have q201:x5_2 < (t194.length:Int):=of_decide_eq_true (by first | (with_reducible assumption) | assumption)
           obtain ⟨ad201,e201,hx201_0⟩:=Kd.at_string (Kd.R_reads' HO_3.out).2.2 x5_2 p201 q201
           cases e201
           replace p201:=eq_true p201
           replace q201:=eq_true q201
           go_wp2_with (first | (go_at_call 147;(with_reducible refine (spec_leading.calls k2 (rdOf ByteArray.empty t194 x5_2) t202 _ A14.out).mono ?_);rintro e w' ⟨rfl,⟨nd,rfl⟩⟩;(try first | exact ⟨rfl,_,World.drewN_drewN _ _ _⟩ | exact ⟨rfl,_,Eq.trans (World.drewN_drewN _ _ _) (congrArg (World.drewN _) (Nat.add_assoc _ _ _))⟩);have p203:0 ≤ (x5_2:Int):=of_decide_eq_true (by first | (with_reducible assumption) | assumption);have q203:x5_2 < (t194.length:Int):=of_decide_eq_true (by first | (with_reducible assumption) | assumption);obtain ⟨ad203,e203,hx203_0⟩:=Kd.at_string (Kd.R_reads' HO_3.out).2.2 x5_2 p203 q203;obtain rfl:ad201 = ad203:=(by injection e203);replace p203:=eq_true p203;replace q203:=eq_true q203;have p204:0 ≤ (x5_2:Int):=of_decide_eq_true (by first | (with_reducible assumption) | assumption);have q204:x5_2 < (t194.length:Int):=of_decide_eq_true (by first | (with_reducible assumption) | assumption);obtain ⟨ad204,e204,hx204_0⟩:=Kd.at_string (Kd.R_reads' HO_3.out).2.2 x5_2 p204 q204;obtain rfl:ad201 = ad204:=(by injection e204);replace p204:=eq_true p204;replace q204:=eq_true q204;have p205:0 ≤ (x5_2:Int):=of_decide_eq_true (by first | (with_reducible assumption) | assumption);have q205:x5_2 < (t194.length:Int):=of_decide_eq_true (by first | (with_reducible assumption) | assumption);obtain ⟨ad205,e205,hx205_0⟩:=Kd.at_string (Kd.R_reads' HO_3.out).2.2 x5_2 p205 q205;obtain rfl:ad201 = ad205:=(by injection e205);replace p205:=eq_true p205;replace q205:=eq_true q205))
           repeat (go_quiet (first | (go_at_call 147;(with_reducible refine (spec_leading.calls k2 (rdOf ByteArray.empty t194 x5_2) t202 _ A14.out).mono ?_);rintro e w' ⟨rfl,⟨nd,rfl⟩⟩;(try first | exact ⟨rfl,_,World.drewN_drewN _ _ _⟩ | exact ⟨rfl,_,Eq.trans (World.drewN_drewN _ _ _) (congrArg (World.drewN _) (Nat.add_assoc _ _ _))⟩);have p203:0 ≤ (x5_2:Int):=of_decide_eq_true (by first | (with_reducible assumption) | assumption);have q203:x5_2 < (t194.length:Int):=of_decide_eq_true (by first | (with_reducible assumption) | assumption);obtain ⟨ad203,e203,hx203_0⟩:=Kd.at_string (Kd.R_reads' HO_3.out).2.2 x5_2 p203 q203;obtain rfl:ad201 = ad203:=(by injection e203);replace p203:=eq_true p203;replace q203:=eq_true q203;have p204:0 ≤ (x5_2:Int):=of_decide_eq_true (by first | (with_reducible assumption) | assumption);have q204:x5_2 < (t194.length:Int):=of_decide_eq_true (by first | (with_reducible assumption) | assumption);obtain ⟨ad204,e204,hx204_0⟩:=Kd.at_string (Kd.R_reads' HO_3.out).2.2 x5_2 p204 q204;obtain rfl:ad201 = ad204:=(by injection e204);replace p204:=eq_true p204;replace q204:=eq_true q204;have p205:0 ≤ (x5_2:Int):=of_decide_eq_true (by first | (with_reducible assumption) | assumption);have q205:x5_2 < (t194.length:Int):=of_decide_eq_true (by first | (with_reducible assumption) | assumption);obtain ⟨ad205,e205,hx205_0⟩:=Kd.at_string (Kd.R_reads' HO_3.out).2.2 x5_2 p205 q205;obtain rfl:ad201 = ad205:=(by injection e205);replace p205:=eq_true p205;replace q205:=eq_true q205));try go_wp2_with (first | (go_at_call 147;(with_reducible refine (spec_leading.calls k2 (rdOf ByteArray.empty t194 x5_2) t202 _ A14.out).mono ?_);rintro e w' ⟨rfl,⟨nd,rfl⟩⟩;(try first | exact ⟨rfl,_,World.drewN_drewN _ _ _⟩ | exact ⟨rfl,_,Eq.trans (World.drewN_drewN _ _ _) (congrArg (World.drewN _) (Nat.add_assoc _ _ _))⟩);have p203:0 ≤ (x5_2:Int):=of_decide_eq_true (by first | (with_reducible assumption) | assumption);have q203:x5_2 < (t194.length:Int):=of_decide_eq_true (by first | (with_reducible assumption) | assumption);obtain ⟨ad203,e203,hx203_0⟩:=Kd.at_string (Kd.R_reads' HO_3.out).2.2 x5_2 p203 q203;obtain rfl:ad201 = ad203:=(by injection e203);replace p203:=eq_true p203;replace q203:=eq_true q203;have p204:0 ≤ (x5_2:Int):=of_decide_eq_true (by first | (with_reducible assumption) | assumption);have q204:x5_2 < (t194.length:Int):=of_decide_eq_true (by first | (with_reducible assumption) | assumption);obtain ⟨ad204,e204,hx204_0⟩:=Kd.at_string (Kd.R_reads' HO_3.out).2.2 x5_2 p204 q204;obtain rfl:ad201 = ad204:=(by injection e204);replace p204:=eq_true p204;replace q204:=eq_true q204;have p205:0 ≤ (x5_2:Int):=of_decide_eq_true (by first | (with_reducible assumption) | assumption);have q205:x5_2 < (t194.length:Int):=of_decide_eq_true (by first | (with_reducible assumption) | assumption);obtain ⟨ad205,e205,hx205_0⟩:=Kd.at_string (Kd.R_reads' HO_3.out).2.2 x5_2 p205 q205;obtain rfl:ad201 = ad205:=(by injection e205);replace p205:=eq_true p205;replace q205:=eq_true q205)))
           go_ret
           exact ⟨by first | rfl | (simp [errW_none,errW_some] <;> rfl) | (simp [*,errW_none,errW_some] <;> rfl),by repeat (first | (with_reducible first | exact HB.out | apply below_alloc | apply pw_below_drewN | apply below_drew1) | exact HB.out)⟩
          ·rw [if_neg c17] at H
           have c17b0:decide (((rdOf ByteArray.empty t194 x5_2).size:Int) < t197) = false:=decide_eq_false c17
           clear c17
           have H':=Aside0.mk H
           clear H
           have p201:0 ≤ (x5_2:Int):=of_decide_eq_true (by first | (with_reducible assumption) | assumption)
           have q201:x5_2 < (t194.length:Int):=of_decide_eq_true (by first | (with_reducible assumption) | assumption)
           obtain ⟨ad201,e201,hx201_0⟩:=Kd.at_string (Kd.R_reads' HO_3.out).2.2 x5_2 p201 q201
           cases e201
           replace p201:=eq_true p201
           replace q201:=eq_true q201
           go_wp2_with (first | (go_at_call 147;(with_reducible refine (spec_leading.calls k2 (rdOf ByteArray.empty t194 x5_2) t202 _ A14.out).mono ?_);rintro e w' ⟨rfl,⟨nd,rfl⟩⟩;(try first | exact ⟨rfl,_,World.drewN_drewN _ _ _⟩ | exact ⟨rfl,_,Eq.trans (World.drewN_drewN _ _ _) (congrArg (World.drewN _) (Nat.add_assoc _ _ _))⟩);have p203:0 ≤ (x5_2:Int):=of_decide_eq_true (by first | (with_reducible assumption) | assumption);have q203:x5_2 < (t194.length:Int):=of_decide_eq_true (by first | (with_reducible assumption) | assumption);obtain ⟨ad203,e203,hx203_0⟩:=Kd.at_string (Kd.R_reads' HO_3.out).2.2 x5_2 p203 q203;obtain rfl:ad201 = ad203:=(by injection e203);replace p203:=eq_true p203;replace q203:=eq_true q203;have p204:0 ≤ (x5_2:Int):=of_decide_eq_true (by first | (with_reducible assumption) | assumption);have q204:x5_2 < (t194.length:Int):=of_decide_eq_true (by first | (with_reducible assumption) | assumption);obtain ⟨ad204,e204,hx204_0⟩:=Kd.at_string (Kd.R_reads' HO_3.out).2.2 x5_2 p204 q204;obtain rfl:ad201 = ad204:=(by injection e204);replace p204:=eq_true p204;replace q204:=eq_true q204;have p205:0 ≤ (x5_2:Int):=of_decide_eq_true (by first | (with_reducible assumption) | assumption);have q205:x5_2 < (t194.length:Int):=of_decide_eq_true (by first | (with_reducible assumption) | assumption);obtain ⟨ad205,e205,hx205_0⟩:=Kd.at_string (Kd.R_reads' HO_3.out).2.2 x5_2 p205 q205;obtain rfl:ad201 = ad205:=(by injection e205);replace p205:=eq_true p205;replace q205:=eq_true q205))
           repeat (go_quiet (first | (go_at_call 147;(with_reducible refine (spec_leading.calls k2 (rdOf ByteArray.empty t194 x5_2) t202 _ A14.out).mono ?_);rintro e w' ⟨rfl,⟨nd,rfl⟩⟩;(try first | exact ⟨rfl,_,World.drewN_drewN _ _ _⟩ | exact ⟨rfl,_,Eq.trans (World.drewN_drewN _ _ _) (congrArg (World.drewN _) (Nat.add_assoc _ _ _))⟩);have p203:0 ≤ (x5_2:Int):=of_decide_eq_true (by first | (with_reducible assumption) | assumption);have q203:x5_2 < (t194.length:Int):=of_decide_eq_true (by first | (with_reducible assumption) | assumption);obtain ⟨ad203,e203,hx203_0⟩:=Kd.at_string (Kd.R_reads' HO_3.out).2.2 x5_2 p203 q203;obtain rfl:ad201 = ad203:=(by injection e203);replace p203:=eq_true p203;replace q203:=eq_true q203;have p204:0 ≤ (x5_2:Int):=of_decide_eq_true (by first | (with_reducible assumption) | assumption);have q204:x5_2 < (t194.length:Int):=of_decide_eq_true (by first | (with_reducible assumption) | assumption);obtain ⟨ad204,e204,hx204_0⟩:=Kd.at_string (Kd.R_reads' HO_3.out).2.2 x5_2 p204 q204;obtain rfl:ad201 = ad204:=(by injection e204);replace p204:=eq_true p204;replace q204:=eq_true q204;have p205:0 ≤ (x5_2:Int):=of_decide_eq_true (by first | (with_reducible assumption) | assumption);have q205:x5_2 < (t194.length:Int):=of_decide_eq_true (by first | (with_reducible assumption) | assumption);obtain ⟨ad205,e205,hx205_0⟩:=Kd.at_string (Kd.R_reads' HO_3.out).2.2 x5_2 p205 q205;obtain rfl:ad201 = ad205:=(by injection e205);replace p205:=eq_true p205;replace q205:=eq_true q205));try go_wp2_with (first | (go_at_call 147;(with_reducible refine (spec_leading.calls k2 (rdOf ByteArray.empty t194 x5_2) t202 _ A14.out).mono ?_);rintro e w' ⟨rfl,⟨nd,rfl⟩⟩;(try first | exact ⟨rfl,_,World.drewN_drewN _ _ _⟩ | exact ⟨rfl,_,Eq.trans (World.drewN_drewN _ _ _) (congrArg (World.drewN _) (Nat.add_assoc _ _ _))⟩);have p203:0 ≤ (x5_2:Int):=of_decide_eq_true (by first | (with_reducible assumption) | assumption);have q203:x5_2 < (t194.length:Int):=of_decide_eq_true (by first | (with_reducible assumption) | assumption);obtain ⟨ad203,e203,hx203_0⟩:=Kd.at_string (Kd.R_reads' HO_3.out).2.2 x5_2 p203 q203;obtain rfl:ad201 = ad203:=(by injection e203);replace p203:=eq_true p203;replace q203:=eq_true q203;have p204:0 ≤ (x5_2:Int):=of_decide_eq_true (by first | (with_reducible assumption) | assumption);have q204:x5_2 < (t194.length:Int):=of_decide_eq_true (by first | (with_reducible assumption) | assumption);obtain ⟨ad204,e204,hx204_0⟩:=Kd.at_string (Kd.R_reads' HO_3.out).2.2 x5_2 p204 q204;obtain rfl:ad201 = ad204:=(by injection e204);replace p204:=eq_true p204;replace q204:=eq_true q204;have p205:0 ≤ (x5_2:Int):=of_decide_eq_true (by first | (with_reducible assumption) | assumption);have q205:x5_2 < (t194.length:Int):=of_decide_eq_true (by first | (with_reducible assumption) | assumption);obtain ⟨ad205,e205,hx205_0⟩:=Kd.at_string (Kd.R_reads' HO_3.out).2.2 x5_2 p205 q205;obtain rfl:ad201 = ad205:=(by injection e205);replace p205:=eq_true p205;replace q205:=eq_true q205)))
           go_roundg k2
           case measure=>have:=HJ3.out;have:=HK2.out;omega
           case rel=>exact ⟨(wrap64 (x5_2 + 1)),(by first | rfl | (simp;done) | (simp [*];done)),H',⟨by have:=HJ3.out;have:=HK2.out;omega⟩,⟨by (with_reducible repeat (first | apply Kd.R_alloc | apply Kd.R_drewN | apply Kd.R_drew));exact HO_3.out⟩,⟨by repeat (first | (with_reducible first | exact HB.out | apply below_alloc | apply pw_below_drewN | apply below_drew1) | exact HB.out)⟩⟩
         ·rw [if_neg c16] at H
          have c16b0:decide (0 < ((rdOf ByteArray.empty t194 x5_2).size:Int)) = false:=decide_eq_false c16
          have c16b1:decide (0 < (rdOf ByteArray.empty t194 x5_2).size) = false:=decide_eq_false (by omega)
          clear c16
          have H':=Aside0.mk H
          clear H
          have p201:0 ≤ (x5_2:Int):=of_decide_eq_true (by first | (with_reducible assumption) | assumption)
          have q201:x5_2 < (t194.length:Int):=of_decide_eq_true (by first | (with_reducible assumption) | assumption)
          obtain ⟨ad201,e201,hx201_0⟩:=Kd.at_string (Kd.R_reads' HO_3.out).2.2 x5_2 p201 q201
          cases e201
          replace p201:=eq_true p201
          replace q201:=eq_true q201
          go_wp2_with (first | (go_at_call 147;(with_reducible refine (spec_leading.calls k2 (rdOf ByteArray.empty t194 x5_2) t202 _ A14.out).mono ?_);rintro e w' ⟨rfl,⟨nd,rfl⟩⟩;(try first | exact ⟨rfl,_,World.drewN_drewN _ _ _⟩ | exact ⟨rfl,_,Eq.trans (World.drewN_drewN _ _ _) (congrArg (World.drewN _) (Nat.add_assoc _ _ _))⟩);have p203:0 ≤ (x5_2:Int):=of_decide_eq_true (by first | (with_reducible assumption) | assumption);have q203:x5_2 < (t194.length:Int):=of_decide_eq_true (by first | (with_reducible assumption) | assumption);obtain ⟨ad203,e203,hx203_0⟩:=Kd.at_string (Kd.R_reads' HO_3.out).2.2 x5_2 p203 q203;obtain rfl:ad201 = ad203:=(by injection e203);replace p203:=eq_true p203;replace q203:=eq_true q203;have p204:0 ≤ (x5_2:Int):=of_decide_eq_true (by first | (with_reducible assumption) | assumption);have q204:x5_2 < (t194.length:Int):=of_decide_eq_true (by first | (with_reducible assumption) | assumption);obtain ⟨ad204,e204,hx204_0⟩:=Kd.at_string (Kd.R_reads' HO_3.out).2.2 x5_2 p204 q204;obtain rfl:ad201 = ad204:=(by injection e204);replace p204:=eq_true p204;replace q204:=eq_true q204))
          repeat (go_quiet (first | (go_at_call 147;(with_reducible refine (spec_leading.calls k2 (rdOf ByteArray.empty t194 x5_2) t202 _ A14.out).mono ?_);rintro e w' ⟨rfl,⟨nd,rfl⟩⟩;(try first | exact ⟨rfl,_,World.drewN_drewN _ _ _⟩ | exact ⟨rfl,_,Eq.trans (World.drewN_drewN _ _ _) (congrArg (World.drewN _) (Nat.add_assoc _ _ _))⟩);have p203:0 ≤ (x5_2:Int):=of_decide_eq_true (by first | (with_reducible assumption) | assumption);have q203:x5_2 < (t194.length:Int):=of_decide_eq_true (by first | (with_reducible assumption) | assumption);obtain ⟨ad203,e203,hx203_0⟩:=Kd.at_string (Kd.R_reads' HO_3.out).2.2 x5_2 p203 q203;obtain rfl:ad201 = ad203:=(by injection e203);replace p203:=eq_true p203;replace q203:=eq_true q203;have p204:0 ≤ (x5_2:Int):=of_decide_eq_true (by first | (with_reducible assumption) | assumption);have q204:x5_2 < (t194.length:Int):=of_decide_eq_true (by first | (with_reducible assumption) | assumption);obtain ⟨ad204,e204,hx204_0⟩:=Kd.at_string (Kd.R_reads' HO_3.out).2.2 x5_2 p204 q204;obtain rfl:ad201 = ad204:=(by injection e204);replace p204:=eq_true p204;replace q204:=eq_true q204));try go_wp2_with (first | (go_at_call 147;(with_reducible refine (spec_leading.calls k2 (rdOf ByteArray.empty t194 x5_2) t202 _ A14.out).mono ?_);rintro e w' ⟨rfl,⟨nd,rfl⟩⟩;(try first | exact ⟨rfl,_,World.drewN_drewN _ _ _⟩ | exact ⟨rfl,_,Eq.trans (World.drewN_drewN _ _ _) (congrArg (World.drewN _) (Nat.add_assoc _ _ _))⟩);have p203:0 ≤ (x5_2:Int):=of_decide_eq_true (by first | (with_reducible assumption) | assumption);have q203:x5_2 < (t194.length:Int):=of_decide_eq_true (by first | (with_reducible assumption) | assumption);obtain ⟨ad203,e203,hx203_0⟩:=Kd.at_string (Kd.R_reads' HO_3.out).2.2 x5_2 p203 q203;obtain rfl:ad201 = ad203:=(by injection e203);replace p203:=eq_true p203;replace q203:=eq_true q203;have p204:0 ≤ (x5_2:Int):=of_decide_eq_true (by first | (with_reducible assumption) | assumption);have q204:x5_2 < (t194.length:Int):=of_decide_eq_true (by first | (with_reducible assumption) | assumption);obtain ⟨ad204,e204,hx204_0⟩:=Kd.at_string (Kd.R_reads' HO_3.out).2.2 x5_2 p204 q204;obtain rfl:ad201 = ad204:=(by injection e204);replace p204:=eq_true p204;replace q204:=eq_true q204)))
          go_roundg k2
          case measure=>have:=HJ3.out;have:=HK2.out;omega
          case rel=>exact ⟨(wrap64 (x5_2 + 1)),(by first | rfl | (simp;done) | (simp [*];done)),H',⟨by have:=HJ3.out;have:=HK2.out;omega⟩,⟨by (with_reducible repeat (first | apply Kd.R_alloc | apply Kd.R_drewN | apply Kd.R_drew));exact HO_3.out⟩,⟨by repeat (first | (with_reducible first | exact HB.out | apply below_alloc | apply pw_below_drewN | apply below_drew1) | exact HB.out)⟩⟩
        ·rw [if_neg c15] at H
         have c15b0:(t202 == ((rdOf ByteArray.empty t194 x5_2).size:Int)) = false:=beq_eq_false_iff_ne.mpr c15
         have c15b1:(t202 != ((rdOf ByteArray.empty t194 x5_2).size:Int)) = true:=bne_iff_ne.mpr c15
         have H':=Aside0.mk H
         clear H
         have p201:0 ≤ (x5_2:Int):=of_decide_eq_true (by first | (with_reducible assumption) | assumption)
         have q201:x5_2 < (t194.length:Int):=of_decide_eq_true (by first | (with_reducible assumption) | assumption)
         obtain ⟨ad201,e201,hx201_0⟩:=Kd.at_string (Kd.R_reads' HO_3.out).2.2 x5_2 p201 q201
         cases e201
         replace p201:=eq_true p201
         replace q201:=eq_true q201
         go_wp2_with (first | (go_at_call 147;(with_reducible refine (spec_leading.calls k2 (rdOf ByteArray.empty t194 x5_2) t202 _ A14.out).mono ?_);rintro e w' ⟨rfl,⟨nd,rfl⟩⟩;(try first | exact ⟨rfl,_,World.drewN_drewN _ _ _⟩ | exact ⟨rfl,_,Eq.trans (World.drewN_drewN _ _ _) (congrArg (World.drewN _) (Nat.add_assoc _ _ _))⟩);have p203:0 ≤ (x5_2:Int):=of_decide_eq_true (by first | (with_reducible assumption) | assumption);have q203:x5_2 < (t194.length:Int):=of_decide_eq_true (by first | (with_reducible assumption) | assumption);obtain ⟨ad203,e203,hx203_0⟩:=Kd.at_string (Kd.R_reads' HO_3.out).2.2 x5_2 p203 q203;obtain rfl:ad201 = ad203:=(by injection e203);replace p203:=eq_true p203;replace q203:=eq_true q203))
         repeat (go_quiet (first | (go_at_call 147;(with_reducible refine (spec_leading.calls k2 (rdOf ByteArray.empty t194 x5_2) t202 _ A14.out).mono ?_);rintro e w' ⟨rfl,⟨nd,rfl⟩⟩;(try first | exact ⟨rfl,_,World.drewN_drewN _ _ _⟩ | exact ⟨rfl,_,Eq.trans (World.drewN_drewN _ _ _) (congrArg (World.drewN _) (Nat.add_assoc _ _ _))⟩);have p203:0 ≤ (x5_2:Int):=of_decide_eq_true (by first | (with_reducible assumption) | assumption);have q203:x5_2 < (t194.length:Int):=of_decide_eq_true (by first | (with_reducible assumption) | assumption);obtain ⟨ad203,e203,hx203_0⟩:=Kd.at_string (Kd.R_reads' HO_3.out).2.2 x5_2 p203 q203;obtain rfl:ad201 = ad203:=(by injection e203);replace p203:=eq_true p203;replace q203:=eq_true q203));try go_wp2_with (first | (go_at_call 147;(with_reducible refine (spec_leading.calls k2 (rdOf ByteArray.empty t194 x5_2) t202 _ A14.out).mono ?_);rintro e w' ⟨rfl,⟨nd,rfl⟩⟩;(try first | exact ⟨rfl,_,World.drewN_drewN _ _ _⟩ | exact ⟨rfl,_,Eq.trans (World.drewN_drewN _ _ _) (congrArg (World.drewN _) (Nat.add_assoc _ _ _))⟩);have p203:0 ≤ (x5_2:Int):=of_decide_eq_true (by first | (with_reducible assumption) | assumption);have q203:x5_2 < (t194.length:Int):=of_decide_eq_true (by first | (with_reducible assumption) | assumption);obtain ⟨ad203,e203,hx203_0⟩:=Kd.at_string (Kd.R_reads' HO_3.out).2.2 x5_2 p203 q203;obtain rfl:ad201 = ad203:=(by injection e203);replace p203:=eq_true p203;replace q203:=eq_true q203)))
         go_roundg k2
         case measure=>have:=HJ3.out;have:=HK2.out;omega
         case rel=>exact ⟨(wrap64 (x5_2 + 1)),(by first | rfl | (simp;done) | (simp [*];done)),H',⟨by have:=HJ3.out;have:=HK2.out;omega⟩,⟨by (with_reducible repeat (first | apply Kd.R_alloc | apply Kd.R_drewN | apply Kd.R_drew));exact HO_3.out⟩,⟨by repeat (first | (with_reducible first | exact HB.out | apply below_alloc | apply pw_below_drewN | apply below_drew1) | exact HB.out)⟩⟩
       ·rw [if_neg c13] at H
        exact absurd H (by simp)
      ·rw [if_neg c12] at H
       have c12b0:decide (x5_2 < (t194.length:Int)) = false:=decide_eq_false c12
       clear c12
       obtain rfl:=Option.some.inj H
       go_wp2
       repeat (go_quiet (fail);try go_wp2)
       go_ret
       exact ⟨by first | rfl | (simp [errW_none,errW_some] <;> rfl) | (simp [*,errW_none,errW_some] <;> rfl),by repeat (first | (with_reducible first | exact HB.out | apply below_alloc | apply pw_below_drewN | apply below_drew1) | exact HB.out)⟩
end Go.Proofs.YtbobbognjmofdaaGreatDoor.PFnTokens
end
end
