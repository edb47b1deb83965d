import Derived.Test.YtbobbognjmofdaaGreatDoorV10
import Derived.Test.YtbobbognjmofdaaGreatDoorV11
import Derived.Test.YtbobbognjmofdaaGreatDoorV15
import Derived.Test.YtbobbognjmofdaaGreatDoorV17
section
section
namespace Go.Proofs.YtbobbognjmofdaaGreatDoor.PFnReadString
open Go.RowKit Go.Proofs.YtbobbognjmofdaaGreatDoorW.PrintWords Go.Proofs.YtbobbognjmofdaaGreatDoorW.PrintLast Go.Proofs.YtbobbognjmofdaaGreatDoorW.PrintMore
attribute [local go_sem] max2_int min2_int max_two min_two
set_option linter.unusedVariables false
set_option linter.unusedSimpArgs false
mutual
def spec_Point.j2:Nat → ByteArray → Int → Int → Int → Int → Option (Int × Int)
 | 0,_,_,_,_,_=>none
 | k + 1,x0,x1,x4,x5,x7=>if x5 = 0 then (spec_Point.j3 k x0 x1 x4 x5 x7 true) else (spec_Point.j3 k x0 x1 x4 x5 x7 (decide ((wrap64 (x1 + x5)) > (x0.size:Int))))
def spec_Point.j3:Nat → ByteArray → Int → Int → Int → Int → Bool → Option (Int × Int)
 | 0,_,_,_,_,_,_=>none
 | k + 1,x0,x1,x4,x5,x7,x53=>if x53 = true then (some (0,0)) else (spec_Point.l0 k x0 x1 x4 x5 x7 (wrap64 (x1 + 1)))
def spec_Point.l0:Nat → ByteArray → Int → Int → Int → Int → Int → Option (Int × Int)
 | 0,_,_,_,_,_,_=>none
 | k + 1,x0,x1,x4,x5,x7,x8=>if x8 < (wrap64 (x1 + x5)) then (if 0 ≤ x8 then (if x8 < (x0.size:Int) then (if (bt x0 x8) < 128 then (some (0,0)) else (if (bt x0 x8) > 191 then (some (0,0)) else (spec_Point.l0 k x0 x1 (wrap64 ((wrap64 ((wrap64 (x4 * 64)) + (wrap64 (bt x0 x8)))) - 128)) x5 x7 (wrap64 (x8 + 1))))) else (none)) else (none)) else (if x4 < x7 then (some (0,0)) else (if x4 > 1114111 then (some (0,0)) else (if x4 ≥ 55296 then (if x4 < 57344 then (some (0,0)) else (some (x4,x5))) else (some (x4,x5)))))
def spec_Point.j0:Nat → ByteArray → Int → Int → Int → Int → Int → Bool → Option (Int × Int)
 | 0,_,_,_,_,_,_,_=>none
 | k + 1,x0,x1,x4,x5,x6,x7,x17=>if x17 = true then (spec_Point.j2 k x0 x1 (wrap64 (x6 - 192)) 2 128) else (if x6 ≥ 224 then (spec_Point.j1 k x0 x1 x4 x5 x6 x7 (decide (x6 < 240))) else (spec_Point.j1 k x0 x1 x4 x5 x6 x7 false))
def spec_Point.j1:Nat → ByteArray → Int → Int → Int → Int → Int → Bool → Option (Int × Int)
 | 0,_,_,_,_,_,_,_=>none
 | k + 1,x0,x1,x4,x5,x6,x7,x26=>if x26 = true then (spec_Point.j2 k x0 x1 (wrap64 (x6 - 224)) 3 2048) else (if x6 ≥ 240 then (if x6 < 245 then (spec_Point.j2 k x0 x1 (wrap64 (x6 - 240)) 4 65536) else (spec_Point.j2 k x0 x1 x4 x5 x7)) else (spec_Point.j2 k x0 x1 x4 x5 x7))
end
def spec_Point.f (k:Nat) (a0:ByteArray) (a1:Int):Option (Int × Int):=if 0 ≤ a1 then (if a1 < (a0.size:Int) then (if (wrap64 (bt a0 a1)) < 128 then (some (wrap64 (bt a0 a1),1)) else (if (wrap64 (bt a0 a1)) ≥ 194 then (spec_Point.j0 k a0 a1 0 0 (wrap64 (bt a0 a1)) 0 (decide ((wrap64 (bt a0 a1)) < 224))) else (spec_Point.j0 k a0 a1 0 0 (wrap64 (bt a0 a1)) 0 false))) else (none)) else (none)
theorem spec_Point.mono_l:∀ k,(∀ y0 y1 y2 y3 y4,LeO (spec_Point.j2 k y0 y1 y2 y3 y4) (spec_Point.j2 (k + 1) y0 y1 y2 y3 y4)) ∧ (∀ y0 y1 y2 y3 y4 y5,LeO (spec_Point.j3 k y0 y1 y2 y3 y4 y5) (spec_Point.j3 (k + 1) y0 y1 y2 y3 y4 y5)) ∧ (∀ y0 y1 y2 y3 y4 y5,LeO (spec_Point.l0 k y0 y1 y2 y3 y4 y5) (spec_Point.l0 (k + 1) y0 y1 y2 y3 y4 y5)) ∧ (∀ y0 y1 y2 y3 y4 y5 y6,LeO (spec_Point.j0 k y0 y1 y2 y3 y4 y5 y6) (spec_Point.j0 (k + 1) y0 y1 y2 y3 y4 y5 y6)) ∧ (∀ y0 y1 y2 y3 y4 y5 y6,LeO (spec_Point.j1 k y0 y1 y2 y3 y4 y5 y6) (spec_Point.j1 (k + 1) y0 y1 y2 y3 y4 y5 y6))
 | 0=>⟨fun _ _ _ _ _ r h=>by simp [spec_Point.j2] at h,fun _ _ _ _ _ _ r h=>by simp [spec_Point.j3] at h,fun _ _ _ _ _ _ r h=>by simp [spec_Point.l0] at h,fun _ _ _ _ _ _ _ r h=>by simp [spec_Point.j0] at h,fun _ _ _ _ _ _ _ r h=>by simp [spec_Point.j1] at h⟩
 | k + 1=>by
  obtain ⟨ih0,ih1,ih2,ih3,ih4⟩:=spec_Point.mono_l k
  refine ⟨?_,?_,?_,?_,?_⟩
  ·intro y0 y1 y2 y3 y4
   unfold spec_Point.j2
   repeat' first
   | (with_reducible exact ih0 _ _ _ _ _)
   | (with_reducible exact ih1 _ _ _ _ _ _)
   | (with_reducible exact ih2 _ _ _ _ _ _)
   | (with_reducible exact ih3 _ _ _ _ _ _ _)
   | (with_reducible exact ih4 _ _ _ _ _ _ _)
   | (with_reducible exact LeO.refl _)
   | (with_reducible exact LeO.none _)
   | (with_reducible refine LeO.ite ?_ ?_)
   | (with_reducible refine LeO.bind ?_ (fun _=>?_))
   | exact ih0 _ _ _ _ _
   | exact ih1 _ _ _ _ _ _
   | exact ih2 _ _ _ _ _ _
   | exact ih3 _ _ _ _ _ _ _
   | exact ih4 _ _ _ _ _ _ _
   | exact LeO.none _
   | refine LeO.ite ?_ ?_
   | refine LeO.bind ?_ (fun _=>?_)
  ·intro y0 y1 y2 y3 y4 y5
   unfold spec_Point.j3
   repeat' first
   | (with_reducible exact ih0 _ _ _ _ _)
   | (with_reducible exact ih1 _ _ _ _ _ _)
   | (with_reducible exact ih2 _ _ _ _ _ _)
   | (with_reducible exact ih3 _ _ _ _ _ _ _)
   | (with_reducible exact ih4 _ _ _ _ _ _ _)
   | (with_reducible exact LeO.refl _)
   | (with_reducible exact LeO.none _)
   | (with_reducible refine LeO.ite ?_ ?_)
   | (with_reducible refine LeO.bind ?_ (fun _=>?_))
   | exact ih0 _ _ _ _ _
   | exact ih1 _ _ _ _ _ _
   | exact ih2 _ _ _ _ _ _
   | exact ih3 _ _ _ _ _ _ _
   | exact ih4 _ _ _ _ _ _ _
   | exact LeO.none _
   | refine LeO.ite ?_ ?_
   | refine LeO.bind ?_ (fun _=>?_)
  ·intro y0 y1 y2 y3 y4 y5
   unfold spec_Point.l0
   repeat' first
   | (with_reducible exact ih0 _ _ _ _ _)
   | (with_reducible exact ih1 _ _ _ _ _ _)
   | (with_reducible exact ih2 _ _ _ _ _ _)
   | (with_reducible exact ih3 _ _ _ _ _ _ _)
   | (with_reducible exact ih4 _ _ _ _ _ _ _)
   | (with_reducible exact LeO.refl _)
   | (with_reducible exact LeO.none _)
   | (with_reducible refine LeO.ite ?_ ?_)
   | (with_reducible refine LeO.bind ?_ (fun _=>?_))
   | exact ih0 _ _ _ _ _
   | exact ih1 _ _ _ _ _ _
   | exact ih2 _ _ _ _ _ _
   | exact ih3 _ _ _ _ _ _ _
   | exact ih4 _ _ _ _ _ _ _
   | exact LeO.none _
   | refine LeO.ite ?_ ?_
   | refine LeO.bind ?_ (fun _=>?_)
  ·intro y0 y1 y2 y3 y4 y5 y6
   unfold spec_Point.j0
   repeat' first
   | (with_reducible exact ih0 _ _ _ _ _)
   | (with_reducible exact ih1 _ _ _ _ _ _)
   | (with_reducible exact ih2 _ _ _ _ _ _)
   | (with_reducible exact ih3 _ _ _ _ _ _ _)
   | (with_reducible exact ih4 _ _ _ _ _ _ _)
   | (with_reducible exact LeO.refl _)
   | (with_reducible exact LeO.none _)
   | (with_reducible refine LeO.ite ?_ ?_)
   | (with_reducible refine LeO.bind ?_ (fun _=>?_))
   | exact ih0 _ _ _ _ _
   | exact ih1 _ _ _ _ _ _
   | exact ih2 _ _ _ _ _ _
   | exact ih3 _ _ _ _ _ _ _
   | exact ih4 _ _ _ _ _ _ _
   | exact LeO.none _
   | refine LeO.ite ?_ ?_
   | refine LeO.bind ?_ (fun _=>?_)
  ·intro y0 y1 y2 y3 y4 y5 y6
   unfold spec_Point.j1
   repeat' first
   | (with_reducible exact ih0 _ _ _ _ _)
   | (with_reducible exact ih1 _ _ _ _ _ _)
   | (with_reducible exact ih2 _ _ _ _ _ _)
   | (with_reducible exact ih3 _ _ _ _ _ _ _)
   | (with_reducible exact ih4 _ _ _ _ _ _ _)
   | (with_reducible exact LeO.refl _)
   | (with_reducible exact LeO.none _)
   | (with_reducible refine LeO.ite ?_ ?_)
   | (with_reducible refine LeO.bind ?_ (fun _=>?_))
   | exact ih0 _ _ _ _ _
   | exact ih1 _ _ _ _ _ _
   | exact ih2 _ _ _ _ _ _
   | exact ih3 _ _ _ _ _ _ _
   | exact ih4 _ _ _ _ _ _ _
   | exact LeO.none _
   | refine LeO.ite ?_ ?_
   | refine LeO.bind ?_ (fun _=>?_)
theorem spec_Point.mono:∀ a0 a1 k,LeO (spec_Point.f k a0 a1) (spec_Point.f (k + 1) a0 a1):=by
 intro a0 a1 k
 obtain ⟨ih0,ih1,ih2,ih3,ih4⟩:=spec_Point.mono_l k
 unfold spec_Point.f
 repeat' first
   | (with_reducible exact ih0 _ _ _ _ _)
   | (with_reducible exact ih1 _ _ _ _ _ _)
   | (with_reducible exact ih2 _ _ _ _ _ _)
   | (with_reducible exact ih3 _ _ _ _ _ _ _)
   | (with_reducible exact ih4 _ _ _ _ _ _ _)
   | (with_reducible exact LeO.refl _)
   | (with_reducible exact LeO.none _)
   | (with_reducible refine LeO.ite ?_ ?_)
   | (with_reducible refine LeO.bind ?_ (fun _=>?_))
   | exact ih0 _ _ _ _ _
   | exact ih1 _ _ _ _ _ _
   | exact ih2 _ _ _ _ _ _
   | exact ih3 _ _ _ _ _ _ _
   | exact ih4 _ _ _ _ _ _ _
   | exact LeO.none _
   | refine LeO.ite ?_ ?_
   | refine LeO.bind ?_ (fun _=>?_)
set_option maxHeartbeats 8000000 in
set_option maxRecDepth 100000 in
theorem spec_Point.calls (k:Nat) (a0:ByteArray) (a1:Int) (r1:Int) (r2:Int) (w:World) (h:spec_Point.f k a0 a1 = some (r1,r2)) :
  Calls Tryz.prog 36 #[.string a0,.int .i64 a1] w fun e w'=>e = .returned (.tuple #[.int .i64 r1,.int .i64 r2]) ∧ Drawn0 w w':=by
 have H:(if 0 ≤ a1 then (if a1 < (a0.size:Int) then (if (wrap64 (bt a0 a1)) < 128 then (some (wrap64 (bt a0 a1),1)) else (if (wrap64 (bt a0 a1)) ≥ 194 then (spec_Point.j0 k a0 a1 0 0 (wrap64 (bt a0 a1)) 0 (decide ((wrap64 (bt a0 a1)) < 224))) else (spec_Point.j0 k a0 a1 0 0 (wrap64 (bt a0 a1)) 0 false))) else (none)) else (none)) = some (r1,r2):=h
 clear h
 by_cases c3:0 ≤ a1
 ·rw [if_pos c3] at H
  have c3b0:decide (0 ≤ a1) = true:=decide_eq_true c3
  clear c3
  by_cases c4:a1 < (a0.size:Int)
  ·rw [if_pos c4] at H
   have c4b0:decide (a1 < (a0.size:Int)) = true:=decide_eq_true c4
   clear c4
   have HC6:=Aside0.mk H
   clear H
   have p5:0 ≤ (a1:Int):=of_decide_eq_true (by first | (with_reducible assumption) | assumption)
   have q5:a1 < (a0.size:Int):=of_decide_eq_true (by first | (with_reducible assumption) | assumption)
   have hx5:=bt_at a0 a1
   replace p5:=eq_true p5
   replace q5:=eq_true q5
   go_enter Tryz.func36,Tryz.ntmps36
   go_upto_block 0 with (fail)
   go_cut [4,5,7] (fun v4 v5 v7 wc=>∃ (kq:Nat) (x4_5:Int) (x5_5:Int) (x7_5:Int),v4 = .int .i64 x4_5 ∧ v5 = .int .i64 x5_5 ∧ v7 = .int .i64 x7_5 ∧ Aside0 (spec_Point.j2 kq a0 a1 x4_5 x5_5 x7_5 = some (r1,r2)) ∧ Aside0 (kq ≤ k) ∧ Drawn0 w wc)
   case first=>
    have H:=HC6.out
    clear HC6
    by_cases c7:(wrap64 (bt a0 a1)) < 128
    ·rw [if_pos c7] at H
     have c7b0:decide ((wrap64 (bt a0 a1)) < 128) = true:=decide_eq_true c7
     clear c7
     (first | rw [c7b0] | (simp only [i64_w,i32_w];rw [c7b0]) | skip)
     simp only [Option.some.injEq,Prod.mk.injEq] at H
     obtain ⟨rfl,rfl⟩:=H
     go_wp2
     go_ret2
     exact ⟨by first | rfl | (simp;done) | (simp [*];done),by repeat (first | exact Drawn0.refl _ | apply Drawn0.step)⟩
    ·rw [if_neg c7] at H
     have c7b0:decide ((wrap64 (bt a0 a1)) < 128) = false:=decide_eq_false c7
     clear c7
     (first | rw [c7b0] | (simp only [i64_w,i32_w];rw [c7b0]) | skip)
     have HC8:=Aside0.mk H
     clear H
     go_upto_region 5 with (fail)
     go_cut [17] (fun v17 wc=>∃ (kq:Nat) (x17_7:Bool),v17 = .bool x17_7 ∧ Aside0 (spec_Point.j0 kq a0 a1 0 0 (wrap64 (bt a0 a1)) 0 x17_7 = some (r1,r2)) ∧ Aside0 (kq ≤ k) ∧ Drawn0 w wc)
     case first=>
      have H:=HC8.out
      clear HC8
      by_cases c9:(wrap64 (bt a0 a1)) ≥ 194
      ·rw [if_pos c9] at H
       have c9b0:decide (194 ≤ (wrap64 (bt a0 a1))) = true:=decide_eq_true c9
       clear c9
       (first | rw [c9b0] | (simp only [i64_w,i32_w];rw [c9b0]) | skip)
       have H':=Aside0.mk H
       clear H
       go_wp2
       go_meet
       case rel=>exact ⟨_,(decide ((wrap64 (bt a0 a1)) < 224)),(by first | rfl | (simp;done) | (simp [*];done)),H',⟨by first | omega | exact Nat.le_refl _⟩,by repeat (first | exact Drawn0.refl _ | apply Drawn0.step)⟩
      ·rw [if_neg c9] at H
       have c9b0:decide (194 ≤ (wrap64 (bt a0 a1))) = false:=decide_eq_false c9
       clear c9
       (first | rw [c9b0] | (simp only [i64_w,i32_w];rw [c9b0]) | skip)
       have H':=Aside0.mk H
       clear H
       go_wp2
       go_meet
       case rel=>exact ⟨_,(false),(by first | rfl | (simp;done) | (simp [*];done)),H',⟨by first | omega | exact Nat.le_refl _⟩,by repeat (first | exact Drawn0.refl _ | apply Drawn0.step)⟩
     case rest=>
      clear HC8
      try clear p2
      try clear c3
      try clear c3b0
      try clear c4
      try clear c4b0
      try clear p5
      try clear q5
      try clear hx5
      try clear p6
      try clear c7
      try clear c7b0
      try clear c9
      try clear c9b0
      try clear p5
      try clear q5
      obtain ⟨kq,x17_7,rfl,HA,HJ7,⟨mc7,rfl⟩⟩:=hcut
      cases kq with
      | zero=>exact absurd HA.out (by simp [spec_Point.j0])
      | succ kj7=>
       have H:=HA.out
       clear HA
       simp only [spec_Point.j0] at H
       by_cases c10:x17_7 = true
       ·subst c10
        have H1:(spec_Point.j2 kj7 a0 a1 (wrap64 ((wrap64 (bt a0 a1)) - 192)) 2 128) = some (r1,r2):=by rw [if_pos rfl] at H;exact H
        clear H
        have H:=H1
        clear H1
        have H':=Aside0.mk H
        clear H
        go_wp2
        go_meet
        case rel=>exact ⟨_,(wrap64 ((wrap64 (bt a0 a1)) - 192)),(2),(128),(by first | rfl | (simp;done) | (simp [*];done)),(by first | rfl | (simp;done) | (simp [*];done)),(by first | rfl | (simp;done) | (simp [*];done)),H',⟨by have:=HJ7.out;first | omega | exact Nat.le_refl _⟩,by repeat (first | exact Drawn0.refl _ | apply Drawn0.step)⟩
       ·replace c10:=Bool.eq_false_iff.mpr c10
        subst c10
        have H1:(if (wrap64 (bt a0 a1)) ≥ 224 then (spec_Point.j1 kj7 a0 a1 0 0 (wrap64 (bt a0 a1)) 0 (decide ((wrap64 (bt a0 a1)) < 240))) else (spec_Point.j1 kj7 a0 a1 0 0 (wrap64 (bt a0 a1)) 0 false)) = some (r1,r2):=by rw [if_neg (show ¬ (false = true) by decide)] at H;exact H
        clear H
        have H:=H1
        clear H1
        have HC11:=Aside0.mk H
        clear H
        go_upto_region 7 with (fail)
        go_cut [26] (fun v26 wc=>∃ (kq:Nat) (x26_10:Bool),v26 = .bool x26_10 ∧ Aside0 (spec_Point.j1 kq a0 a1 0 0 (wrap64 (bt a0 a1)) 0 x26_10 = some (r1,r2)) ∧ Aside0 (kq ≤ kj7) ∧ Drawn0 w wc)
        case first=>
         have H:=HC11.out
         clear HC11
         by_cases c12:(wrap64 (bt a0 a1)) ≥ 224
         ·rw [if_pos c12] at H
          have c12b0:decide (224 ≤ (wrap64 (bt a0 a1))) = true:=decide_eq_true c12
          clear c12
          (first | rw [c12b0] | (simp only [i64_w,i32_w];rw [c12b0]) | skip)
          have H':=Aside0.mk H
          clear H
          go_wp2
          go_meet
          case rel=>exact ⟨_,(decide ((wrap64 (bt a0 a1)) < 240)),(by first | rfl | (simp;done) | (simp [*];done)),H',⟨by have:=HJ7.out;first | omega | exact Nat.le_refl _⟩,by repeat (first | exact Drawn0.refl _ | apply Drawn0.step)⟩
         ·rw [if_neg c12] at H
          have c12b0:decide (224 ≤ (wrap64 (bt a0 a1))) = false:=decide_eq_false c12
          clear c12
          (first | rw [c12b0] | (simp only [i64_w,i32_w];rw [c12b0]) | skip)
          have H':=Aside0.mk H
          clear H
          go_wp2
          go_meet
          case rel=>exact ⟨_,(false),(by first | rfl | (simp;done) | (simp [*];done)),H',⟨by have:=HJ7.out;first | omega | exact Nat.le_refl _⟩,by repeat (first | exact Drawn0.refl _ | apply Drawn0.step)⟩
        case rest=>
         clear HC11
         try clear c1
         try clear p2
         try clear c3
         try clear c3b0
         try clear c4
         try clear c4b0
         try clear p5
         try clear q5
         try clear hx5
         try clear p6
         try clear c7
         try clear c7b0
         try clear c9
         try clear c9b0
         try clear c10
         try clear c12
         try clear c12b0
         try clear p2
         try clear p5
         try clear p6
         try clear q5
         obtain ⟨kq,x26_10,rfl,HA,HJ10,⟨mc10,rfl⟩⟩:=hcut
         cases kq with
         | zero=>exact absurd HA.out (by simp [spec_Point.j1])
         | succ kj10=>
          have H:=HA.out
          clear HA
          simp only [spec_Point.j1] at H
          by_cases c13:x26_10 = true
          ·subst c13
           have H1:(spec_Point.j2 kj10 a0 a1 (wrap64 ((wrap64 (bt a0 a1)) - 224)) 3 2048) = some (r1,r2):=by rw [if_pos rfl] at H;exact H
           clear H
           have H:=H1
           clear H1
           have H':=Aside0.mk H
           clear H
           go_wp2
           go_meet
           case rel=>exact ⟨_,(wrap64 ((wrap64 (bt a0 a1)) - 224)),(3),(2048),(by first | rfl | (simp;done) | (simp [*];done)),(by first | rfl | (simp;done) | (simp [*];done)),(by first | rfl | (simp;done) | (simp [*];done)),H',⟨by have:=HJ7.out;have:=HJ10.out;first | omega | exact Nat.le_refl _⟩,by repeat (first | exact Drawn0.refl _ | apply Drawn0.step)⟩
          ·replace c13:=Bool.eq_false_iff.mpr c13
           subst c13
           have H1:(if (wrap64 (bt a0 a1)) ≥ 240 then (if (wrap64 (bt a0 a1)) < 245 then (spec_Point.j2 kj10 a0 a1 (wrap64 ((wrap64 (bt a0 a1)) - 240)) 4 65536) else (spec_Point.j2 kj10 a0 a1 0 0 0)) else (spec_Point.j2 kj10 a0 a1 0 0 0)) = some (r1,r2):=by rw [if_neg (show ¬ (false = true) by decide)] at H;exact H
           clear H
           have H:=H1
           clear H1
           by_cases c14:(wrap64 (bt a0 a1)) ≥ 240
           ·rw [if_pos c14] at H
            have c14b0:decide (240 ≤ (wrap64 (bt a0 a1))) = true:=decide_eq_true c14
            clear c14
            by_cases c15:(wrap64 (bt a0 a1)) < 245
            ·rw [if_pos c15] at H
             have c15b0:decide ((wrap64 (bt a0 a1)) < 245) = true:=decide_eq_true c15
             clear c15
             have H':=Aside0.mk H
             clear H
             go_wp2
             go_meet
             case rel=>exact ⟨_,(wrap64 ((wrap64 (bt a0 a1)) - 240)),(4),(65536),(by first | rfl | (simp;done) | (simp [*];done)),(by first | rfl | (simp;done) | (simp [*];done)),(by first | rfl | (simp;done) | (simp [*];done)),H',⟨by have:=HJ7.out;have:=HJ10.out;first | omega | exact Nat.le_refl _⟩,by repeat (first | exact Drawn0.refl _ | apply Drawn0.step)⟩
            ·rw [if_neg c15] at H
             have c15b0:decide ((wrap64 (bt a0 a1)) < 245) = false:=decide_eq_false c15
             clear c15
             have H':=Aside0.mk H
             clear H
             go_wp2
             go_meet
             case rel=>exact ⟨_,(0),(0),(0),(by first | rfl | (simp;done) | (simp [*];done)),(by first | rfl | (simp;done) | (simp [*];done)),(by first | rfl | (simp;done) | (simp [*];done)),H',⟨by have:=HJ7.out;have:=HJ10.out;first | omega | exact Nat.le_refl _⟩,by repeat (first | exact Drawn0.refl _ | apply Drawn0.step)⟩
           ·rw [if_neg c14] at H
            have c14b0:decide (240 ≤ (wrap64 (bt a0 a1))) = false:=decide_eq_false c14
            clear c14
            have H':=Aside0.mk H
            clear H
            go_wp2
            go_meet
            case rel=>exact ⟨_,(0),(0),(0),(by first | rfl | (simp;done) | (simp [*];done)),(by first | rfl | (simp;done) | (simp [*];done)),(by first | rfl | (simp;done) | (simp [*];done)),H',⟨by have:=HJ7.out;have:=HJ10.out;first | omega | exact Nat.le_refl _⟩,by repeat (first | exact Drawn0.refl _ | apply Drawn0.step)⟩
   case rest=>
    clear HC6
    try clear c1
    try clear p2
    try clear c3
    try clear c3b0
    try clear c4
    try clear c4b0
    try clear p5
    try clear q5
    try clear hx5
    try clear p6
    try clear c7
    try clear c7b0
    try clear c9
    try clear c9b0
    try clear c10
    try clear c12
    try clear c12b0
    try clear c13
    try clear c14
    try clear c14b0
    try clear c15
    try clear c15b0
    try clear p2
    try clear p5
    try clear p6
    try clear q5
    obtain ⟨kq,x4_5,x5_5,x7_5,rfl,rfl,rfl,HA,HJ5,⟨mc5,rfl⟩⟩:=hcut
    cases kq with
    | zero=>exact absurd HA.out (by simp [spec_Point.j2])
    | succ kj5=>
     have H:=HA.out
     clear HA
     simp only [spec_Point.j2] at H
     have HC16:=Aside0.mk H
     clear H
     go_upto_region 11 with (fail)
     go_cut [53] (fun v53 wc=>∃ (kq:Nat) (x53_15:Bool),v53 = .bool x53_15 ∧ Aside0 (spec_Point.j3 kq a0 a1 x4_5 x5_5 x7_5 x53_15 = some (r1,r2)) ∧ Aside0 (kq ≤ kj5) ∧ Drawn0 w wc)
     case first=>
      have H:=HC16.out
      clear HC16
      by_cases c17:x5_5 = 0
      ·rw [if_pos c17] at H
       have c17b0:(x5_5 == 0) = true:=beq_iff_eq.mpr c17
       have c17b1:(x5_5 != 0) = false:=bne_eq_false_iff_eq.mpr c17
       clear c17
       (first | rw [c17b0] | (simp only [i64_w,i32_w];rw [c17b0]) | skip)
       have H':=Aside0.mk H
       clear H
       go_wp2
       go_meet
       case rel=>exact ⟨_,(true),(by first | rfl | (simp;done) | (simp [*];done)),H',⟨by have:=HJ5.out;first | omega | exact Nat.le_refl _⟩,by repeat (first | exact Drawn0.refl _ | apply Drawn0.step)⟩
      ·rw [if_neg c17] at H
       have c17b0:(x5_5 == 0) = false:=beq_eq_false_iff_ne.mpr c17
       have c17b1:(x5_5 != 0) = true:=bne_iff_ne.mpr c17
       (first | rw [c17b0] | (simp only [i64_w,i32_w];rw [c17b0]) | skip)
       have H':=Aside0.mk H
       clear H
       go_wp2
       go_meet
       case rel=>exact ⟨_,(decide ((wrap64 (a1 + x5_5)) > (a0.size:Int))),(by first | rfl | (simp;done) | (simp [*];done)),H',⟨by have:=HJ5.out;first | omega | exact Nat.le_refl _⟩,by repeat (first | exact Drawn0.refl _ | apply Drawn0.step)⟩
     case rest=>
      clear HC16
      try clear c1
      try clear p2
      try clear c3
      try clear c3b0
      try clear c4
      try clear c4b0
      try clear c5
      try clear p5
      try clear q5
      try clear hx5
      try clear p6
      try clear c7
      try clear c7b0
      try clear c9
      try clear c9b0
      try clear c10
      try clear c12
      try clear c12b0
      try clear c13
      try clear c14
      try clear c14b0
      try clear c15
      try clear c15b0
      try clear c17
      try clear c17b0
      try clear c17b1
      try clear p2
      try clear p5
      try clear p6
      try clear q5
      obtain ⟨kq,x53_15,rfl,HA,HJ15,⟨mc15,rfl⟩⟩:=hcut
      cases kq with
      | zero=>exact absurd HA.out (by simp [spec_Point.j3])
      | succ kj15=>
       have H:=HA.out
       clear HA
       simp only [spec_Point.j3] at H
       by_cases c18:x53_15 = true
       ·subst c18
        have H1:(some (0,0)) = some (r1,r2):=by rw [if_pos rfl] at H;exact H
        clear H
        have H:=H1
        clear H1
        simp only [Option.some.injEq,Prod.mk.injEq] at H
        obtain ⟨rfl,rfl⟩:=H
        go_wp2
        go_ret2
        exact ⟨by first | rfl | (simp;done) | (simp [*];done),by repeat (first | exact Drawn0.refl _ | apply Drawn0.step)⟩
       ·replace c18:=Bool.eq_false_iff.mpr c18
        subst c18
        have H1:(spec_Point.l0 kj15 a0 a1 x4_5 x5_5 x7_5 (wrap64 (a1 + 1))) = some (r1,r2):=by rw [if_neg (show ¬ (false = true) by decide)] at H;exact H
        clear H
        have H:=H1
        clear H1
        have H':=Aside0.mk H
        clear H
        go_wp2
        go_loopg [4,5,8] kj15 (fun kq v4 v5 v8 w'=>∃ (x4_3:Int) (x5_3:Int) (x8_3:Int),v4 = .int .i64 x4_3 ∧ v5 = .int .i64 x5_3 ∧ v8 = .int .i64 x8_3 ∧ Aside0 (spec_Point.l0 kq a0 a1 x4_3 x5_3 x7_5 x8_3 = some (r1,r2)) ∧ Aside0 (kq ≤ kj15) ∧ Drawn0 w w')
        case atStart=>exact ⟨(x4_5),(x5_5),(wrap64 (a1 + 1)),(by first | rfl | (simp;done) | (simp [*];done)),(by first | rfl | (simp;done) | (simp [*];done)),(by first | rfl | (simp;done) | (simp [*];done)),H',⟨Nat.le_refl _⟩,by repeat (first | exact Drawn0.refl _ | apply Drawn0.step)⟩
        case round=>
         clear H'
         try clear c1
         try clear p2
         try clear c3
         try clear c3b0
         try clear c4
         try clear c4b0
         try clear c5
         try clear p5
         try clear q5
         try clear hx5
         try clear p6
         try clear c7
         try clear c7b0
         try clear c9
         try clear c9b0
         try clear c10
         try clear c12
         try clear c12b0
         try clear c13
         try clear c14
         try clear c14b0
         try clear c15
         try clear c15b0
         try clear c17
         try clear c17b0
         try clear c17b1
         try clear c18
         try clear p2
         try clear p5
         try clear p6
         try clear q5
         obtain ⟨x4_3,x5_3,x8_3,rfl,rfl,rfl,HA,HK3,⟨m3,rfl⟩⟩:=hrel
         cases gk with
         | zero=>exact absurd HA.out (by simp [spec_Point.l0])
         | succ k3=>
          have H:=HA.out
          clear HA
          simp only [spec_Point.l0] at H
          by_cases c19:x8_3 < (wrap64 (a1 + x5_3))
          ·rw [if_pos c19] at H
           have c19b0:decide (x8_3 < (wrap64 (a1 + x5_3))) = true:=decide_eq_true c19
           clear c19
           by_cases c20:0 ≤ x8_3
           ·rw [if_pos c20] at H
            have c20b0:decide (0 ≤ x8_3) = true:=decide_eq_true c20
            clear c20
            by_cases c21:x8_3 < (a0.size:Int)
            ·rw [if_pos c21] at H
             have c21b0:decide (x8_3 < (a0.size:Int)) = true:=decide_eq_true c21
             clear c21
             by_cases c23:(bt a0 x8_3) < 128
             ·rw [if_pos c23] at H
              have c23b0:decide ((bt a0 x8_3) < 128) = true:=decide_eq_true c23
              clear c23
              simp only [Option.some.injEq,Prod.mk.injEq] at H
              obtain ⟨rfl,rfl⟩:=H
              have p22:0 ≤ (x8_3:Int):=of_decide_eq_true (by first | (with_reducible assumption) | assumption)
              have q22:x8_3 < (a0.size:Int):=of_decide_eq_true (by first | (with_reducible assumption) | assumption)
              have hx22:=bt_at a0 x8_3
              replace p22:=eq_true p22
              replace q22:=eq_true q22
              go_wp2
              go_ret2
              exact ⟨by first | rfl | (simp;done) | (simp [*];done),by repeat (first | exact Drawn0.refl _ | apply Drawn0.step)⟩
             ·rw [if_neg c23] at H
              have c23b0:decide ((bt a0 x8_3) < 128) = false:=decide_eq_false c23
              clear c23
              by_cases c25:(bt a0 x8_3) > 191
              ·rw [if_pos c25] at H
               have c25b0:decide (191 < (bt a0 x8_3)) = true:=decide_eq_true c25
               clear c25
               simp only [Option.some.injEq,Prod.mk.injEq] at H
               obtain ⟨rfl,rfl⟩:=H
               have p22:0 ≤ (x8_3:Int):=of_decide_eq_true (by first | (with_reducible assumption) | assumption)
               have q22:x8_3 < (a0.size:Int):=of_decide_eq_true (by first | (with_reducible assumption) | assumption)
               have hx22:=bt_at a0 x8_3
               replace p22:=eq_true p22
               replace q22:=eq_true q22
               have p24:0 ≤ (x8_3:Int):=of_decide_eq_true (by first | (with_reducible assumption) | assumption)
               have q24:x8_3 < (a0.size:Int):=of_decide_eq_true (by first | (with_reducible assumption) | assumption)
               have hx24:=bt_at a0 x8_3
               replace p24:=eq_true p24
               replace q24:=eq_true q24
               go_wp2
               go_ret2
               exact ⟨by first | rfl | (simp;done) | (simp [*];done),by repeat (first | exact Drawn0.refl _ | apply Drawn0.step)⟩
              ·rw [if_neg c25] at H
               have c25b0:decide (191 < (bt a0 x8_3)) = false:=decide_eq_false c25
               clear c25
               have H':=Aside0.mk H
               clear H
               have p22:0 ≤ (x8_3:Int):=of_decide_eq_true (by first | (with_reducible assumption) | assumption)
               have q22:x8_3 < (a0.size:Int):=of_decide_eq_true (by first | (with_reducible assumption) | assumption)
               have hx22:=bt_at a0 x8_3
               replace p22:=eq_true p22
               replace q22:=eq_true q22
               have p24:0 ≤ (x8_3:Int):=of_decide_eq_true (by first | (with_reducible assumption) | assumption)
               have q24:x8_3 < (a0.size:Int):=of_decide_eq_true (by first | (with_reducible assumption) | assumption)
               have hx24:=bt_at a0 x8_3
               replace p24:=eq_true p24
               replace q24:=eq_true q24
               have p26:0 ≤ (x8_3:Int):=of_decide_eq_true (by first | (with_reducible assumption) | assumption)
               have q26:x8_3 < (a0.size:Int):=of_decide_eq_true (by first | (with_reducible assumption) | assumption)
               have hx26:=bt_at a0 x8_3
               replace p26:=eq_true p26
               replace q26:=eq_true q26
               go_wp2
               go_roundg k3
               case measure=>have:=HJ5.out;have:=HJ15.out;have:=HK3.out;omega
               case rel=>exact ⟨(wrap64 ((wrap64 ((wrap64 (x4_3 * 64)) + (wrap64 (bt a0 x8_3)))) - 128)),(x5_3),(wrap64 (x8_3 + 1)),(by first | rfl | (simp;done) | (simp [*];done)),(by first | rfl | (simp;done) | (simp [*];done)),(by first | rfl | (simp;done) | (simp [*];done)),H',⟨by have:=HJ5.out;have:=HJ15.out;have:=HK3.out;omega⟩,by repeat (first | exact Drawn0.refl _ | apply Drawn0.step)⟩
            ·rw [if_neg c21] at H
             exact absurd H (by simp)
           ·rw [if_neg c20] at H
            exact absurd H (by simp)
          ·rw [if_neg c19] at H
           have c19b0:decide (x8_3 < (wrap64 (a1 + x5_3))) = false:=decide_eq_false c19
           clear c19
           by_cases c27:x4_3 < x7_5
           ·rw [if_pos c27] at H
            have c27b0:decide (x4_3 < x7_5) = true:=decide_eq_true c27
            clear c27
            simp only [Option.some.injEq,Prod.mk.injEq] at H
            obtain ⟨rfl,rfl⟩:=H
            go_wp2
            go_ret2
            exact ⟨by first | rfl | (simp;done) | (simp [*];done),by repeat (first | exact Drawn0.refl _ | apply Drawn0.step)⟩
           ·rw [if_neg c27] at H
            have c27b0:decide (x4_3 < x7_5) = false:=decide_eq_false c27
            clear c27
            by_cases c28:x4_3 > 1114111
            ·rw [if_pos c28] at H
             have c28b0:decide (1114111 < x4_3) = true:=decide_eq_true c28
             clear c28
             simp only [Option.some.injEq,Prod.mk.injEq] at H
             obtain ⟨rfl,rfl⟩:=H
             go_wp2
             go_ret2
             exact ⟨by first | rfl | (simp;done) | (simp [*];done),by repeat (first | exact Drawn0.refl _ | apply Drawn0.step)⟩
            ·rw [if_neg c28] at H
             have c28b0:decide (1114111 < x4_3) = false:=decide_eq_false c28
             clear c28
             by_cases c29:x4_3 ≥ 55296
             ·rw [if_pos c29] at H
              have c29b0:decide (55296 ≤ x4_3) = true:=decide_eq_true c29
              clear c29
              by_cases c30:x4_3 < 57344
              ·rw [if_pos c30] at H
               have c30b0:decide (x4_3 < 57344) = true:=decide_eq_true c30
               clear c30
               simp only [Option.some.injEq,Prod.mk.injEq] at H
               obtain ⟨rfl,rfl⟩:=H
               go_wp2
               go_ret2
               exact ⟨by first | rfl | (simp;done) | (simp [*];done),by repeat (first | exact Drawn0.refl _ | apply Drawn0.step)⟩
              ·rw [if_neg c30] at H
               have c30b0:decide (x4_3 < 57344) = false:=decide_eq_false c30
               clear c30
               simp only [Option.some.injEq,Prod.mk.injEq] at H
               obtain ⟨rfl,rfl⟩:=H
               go_wp2
               go_ret2
               exact ⟨by first | rfl | (simp;done) | (simp [*];done),by repeat (first | exact Drawn0.refl _ | apply Drawn0.step)⟩
             ·rw [if_neg c29] at H
              have c29b0:decide (55296 ≤ x4_3) = false:=decide_eq_false c29
              clear c29
              simp only [Option.some.injEq,Prod.mk.injEq] at H
              obtain ⟨rfl,rfl⟩:=H
              go_wp2
              go_ret2
              exact ⟨by first | rfl | (simp;done) | (simp [*];done),by repeat (first | exact Drawn0.refl _ | apply Drawn0.step)⟩
  ·rw [if_neg c4] at H
   exact absurd H (by simp)
 ·rw [if_neg c3] at H
  exact absurd H (by simp)
def spec_UTF8.l0:Nat → ByteArray → Int → Option (Bool)
 | 0,_,_=>none
 | k + 1,x0,x3=>if x3 < (x0.size:Int) then ((spec_Point.f k x0 x3).bind fun bt101=>(if bt101.2 = 0 then (some false) else (spec_UTF8.l0 k x0 (wrap64 (x3 + bt101.2))))) else (some true)
def spec_UTF8.f (k:Nat) (a0:ByteArray):Option (Bool):=spec_UTF8.l0 k a0 0
theorem spec_UTF8.mono_l:∀ k,(∀ y0 y1,LeO (spec_UTF8.l0 k y0 y1) (spec_UTF8.l0 (k + 1) y0 y1))
 | 0=>fun _ _ r h=>by simp [spec_UTF8.l0] at h
 | k + 1=>by
  have ih0:=spec_UTF8.mono_l k
  ·intro y0 y1
   unfold spec_UTF8.l0
   repeat' first
   | (with_reducible exact ih0 _ _)
   | (with_reducible exact spec_Point.mono _ _ _)
   | (with_reducible exact LeO.refl _)
   | (with_reducible exact LeO.none _)
   | (with_reducible refine LeO.ite ?_ ?_)
   | (with_reducible refine LeO.bind ?_ (fun _=>?_))
   | exact ih0 _ _
   | exact spec_Point.mono _ _ _
   | exact LeO.none _
   | refine LeO.ite ?_ ?_
   | refine LeO.bind ?_ (fun _=>?_)
theorem spec_UTF8.mono:∀ a0 k,LeO (spec_UTF8.f k a0) (spec_UTF8.f (k + 1) a0):=by
 intro a0 k
 have ih0:=spec_UTF8.mono_l k
 unfold spec_UTF8.f
 repeat' first
   | (with_reducible exact ih0 _ _)
   | (with_reducible exact spec_Point.mono _ _ _)
   | (with_reducible exact LeO.refl _)
   | (with_reducible exact LeO.none _)
   | (with_reducible refine LeO.ite ?_ ?_)
   | (with_reducible refine LeO.bind ?_ (fun _=>?_))
   | exact ih0 _ _
   | exact spec_Point.mono _ _ _
   | exact LeO.none _
   | refine LeO.ite ?_ ?_
   | refine LeO.bind ?_ (fun _=>?_)
set_option maxHeartbeats 8000000 in
set_option maxRecDepth 100000 in
theorem spec_UTF8.calls (k:Nat) (a0:ByteArray) (r:Bool) (w:World) (h:spec_UTF8.f k a0 = some r) :
  Calls Tryz.prog 14 #[.string a0] w fun e w'=>e = .returned (.bool r) ∧ Drawn0 w w':=by
 have H:(spec_UTF8.l0 k a0 0) = some r:=h
 clear h
 have H':=Aside0.mk H
 clear H
 go_enter Tryz.func14,Tryz.ntmps14
 go_wp2
 go_loopg [3] k (fun kq v3 w'=>∃ (x3_1:Int),v3 = .int .i64 x3_1 ∧ Aside0 (spec_UTF8.l0 kq a0 x3_1 = some r) ∧ Aside0 (kq ≤ k) ∧ Drawn0 w w')
 case atStart=>exact ⟨(0),(by first | rfl | (simp;done) | (simp [*];done)),H',⟨Nat.le_refl _⟩,by repeat (first | exact Drawn0.refl _ | apply Drawn0.step)⟩
 case round=>
  clear H'
  try clear c1
  obtain ⟨x3_1,rfl,HA,HK1,⟨m1,rfl⟩⟩:=hrel
  cases gk with
  | zero=>exact absurd HA.out (by simp [spec_UTF8.l0])
  | succ k1=>
   have H:=HA.out
   clear HA
   simp only [spec_UTF8.l0] at H
   by_cases c2:x3_1 < (a0.size:Int)
   ·rw [if_pos c2] at H
    have c2b0:decide (x3_1 < (a0.size:Int)) = true:=decide_eq_true c2
    clear c2
    replace H:=Option.bind_eq_some_iff.mp H
    obtain ⟨⟨t101,t102⟩,A30,H⟩:=H
    replace H:(if t102 = 0 then (some false) else (spec_UTF8.l0 k1 a0 (wrap64 (x3_1 + t102)))) = some r:=H
    have A3:=Aside0.mk A30
    clear A30
    by_cases c4:t102 = 0
    ·rw [if_pos c4] at H
     have c4b0:(t102 == 0) = true:=beq_iff_eq.mpr c4
     have c4b1:(t102 != 0) = false:=bne_eq_false_iff_eq.mpr c4
     clear c4
     obtain rfl:=Option.some.inj H
     go_wp2_with (first | ((with_reducible refine gate_callee (f:=36) rfl ?_);refine goesL_ (some 13) rfl rfl Tryz.func36 (by kernel_rfl) rfl #[.string a0,.int .i64 x3_1] rfl (by (try simp only [List.map_toArray,List.map_cons,List.map_nil]);first | done | rfl | (simp only [List.length_drop,List.length_take];rfl)) ?_;(with_reducible refine (spec_Point.calls k1 a0 x3_1 t101 t102 _ A3.out).mono ?_);rintro e w' ⟨rfl,⟨nd,rfl⟩⟩;refine ⟨_,rfl,?_⟩))
     go_ret
     exact ⟨by first | rfl | (simp;done) | (simp [*];done),by repeat (first | exact Drawn0.refl _ | apply Drawn0.step)⟩
    ·rw [if_neg c4] at H
     have c4b0:(t102 == 0) = false:=beq_eq_false_iff_ne.mpr c4
     have c4b1:(t102 != 0) = true:=bne_iff_ne.mpr c4
     have H':=Aside0.mk H
     clear H
     go_wp2_with (first | ((with_reducible refine gate_callee (f:=36) rfl ?_);refine goesL_ (some 13) rfl rfl Tryz.func36 (by kernel_rfl) rfl #[.string a0,.int .i64 x3_1] rfl (by (try simp only [List.map_toArray,List.map_cons,List.map_nil]);first | done | rfl | (simp only [List.length_drop,List.length_take];rfl)) ?_;(with_reducible refine (spec_Point.calls k1 a0 x3_1 t101 t102 _ A3.out).mono ?_);rintro e w' ⟨rfl,⟨nd,rfl⟩⟩;refine ⟨_,rfl,?_⟩))
     go_roundg k1
     case measure=>have:=HK1.out;omega
     case rel=>exact ⟨(wrap64 (x3_1 + t102)),(by first | rfl | (simp;done) | (simp [*];done)),H',⟨by have:=HK1.out;omega⟩,by repeat (first | exact Drawn0.refl _ | apply Drawn0.step)⟩
   ·rw [if_neg c2] at H
    have c2b0:decide (x3_1 < (a0.size:Int)) = false:=decide_eq_false c2
    clear c2
    obtain rfl:=Option.some.inj H
    go_wp2
    go_ret
    exact ⟨by first | rfl | (simp;done) | (simp [*];done),by repeat (first | exact Drawn0.refl _ | apply Drawn0.step)⟩
def laws_short9.f (k:Nat) (a0:ByteArray):Option (Bool):=if (a0.size:Int) ≤ 2000 then ((spec_UTF8.f k a0).bind fun t103=>(some t103)) else (some false)
set_option maxHeartbeats 8000000 in
set_option maxRecDepth 100000 in
theorem laws_short9.calls (k:Nat) (a0:ByteArray) (r:Bool) (w:World) (h:laws_short9.f k a0 = some r) :
  Calls Tryz.prog 10 #[.string a0] w fun e w'=>e = .returned (.bool r) ∧ Drawn0 w w':=by
 have H:(if (a0.size:Int) ≤ 2000 then ((spec_UTF8.f k a0).bind fun t103=>(some t103)) else (some false)) = some r:=h
 clear h
 by_cases c2:(a0.size:Int) ≤ 2000
 ·rw [if_pos c2] at H
  have c2b0:decide ((a0.size:Int) ≤ 2000) = true:=decide_eq_true c2
  have c2b1:decide (a0.size ≤ 2000) = true:=decide_eq_true (by omega)
  clear c2
  replace H:=Option.bind_eq_some_iff.mp H
  obtain ⟨t103,A30,H⟩:=H
  replace H:(some t103) = some r:=H
  have A3:=Aside0.mk A30
  clear A30
  obtain rfl:=Option.some.inj H
  go_enter Tryz.func10,Tryz.ntmps10
  go_wp2_with (first | (go_at_call 14;(with_reducible refine (spec_UTF8.calls k a0 t103 _ A3.out).mono ?_);rintro e w' ⟨rfl,⟨nd,rfl⟩⟩))
  go_ret
  exact ⟨by first | rfl | (simp;done) | (simp [*];done),by repeat (first | exact Drawn0.refl _ | apply Drawn0.step)⟩
 ·rw [if_neg c2] at H
  have c2b0:decide ((a0.size:Int) ≤ 2000) = false:=decide_eq_false c2
  have c2b1:decide (a0.size ≤ 2000) = false:=decide_eq_false (by omega)
  clear c2
  obtain rfl:=Option.some.inj H
  go_enter Tryz.func10,Tryz.ntmps10
  go_wp2
  go_ret
  exact ⟨by first | rfl | (simp;done) | (simp [*];done),by repeat (first | exact Drawn0.refl _ | apply Drawn0.step)⟩
end Go.Proofs.YtbobbognjmofdaaGreatDoor.PFnReadString
end
section
namespace Go.Proofs.YtbobbognjmofdaaGreatDoor.PFnReadString
open Go.RowKit Go.Proofs.YtbobbognjmofdaaGreatDoorW.PrintWords Go.Proofs.YtbobbognjmofdaaGreatDoorW.PrintLast Go.Proofs.YtbobbognjmofdaaGreatDoorW.PrintMore
set_option linter.unusedVariables false
set_option linter.unusedSimpArgs false
theorem w64s (i:Nat) (h:i ≤ 900000):Aside0 (wrap64 ((i:Int) + 1) = ((i + 1:Nat):Int)):=⟨by rw [w64 (by omega) (by omega)];omega⟩
theorem point_l0 (s:ByteArray) (hs:s.size ≤ 100000) (i n:Nat) (x7:Int) (hi:i + n ≤ s.size) (hn:n ≤ 4):∀ (m j:Nat) (x4:Int),i + n - j ≤ m → j ≤ i + n →
  ∃ (c:Int) (n':Nat),spec_Point.l0 (m + 1) s i x4 n x7 j = some (c,(n':Int)) ∧ (n' = 0 ∨ n' = n):=by
 have W:Aside0 (wrap64 ((i:Int) + (n:Int)) = ((i + n:Nat):Int)):=⟨by rw [w64 (by omega) (by omega)];omega⟩
 intro m
 induction m with
 | zero=>
  intro j x4 hm hj
  have hj':j = i + n:=by omega
  subst hj'
  simp only [spec_Point.l0,W.out]
  rw [if_neg (by omega)]
  split
  ·exact ⟨0,0,rfl,.inl rfl⟩
  ·split
   ·exact ⟨0,0,rfl,.inl rfl⟩
   ·split
    ·split
     ·exact ⟨0,0,rfl,.inl rfl⟩
     ·exact ⟨x4,n,rfl,.inr rfl⟩
    ·exact ⟨x4,n,rfl,.inr rfl⟩
 | succ m ih=>
  intro j x4 hm hj
  rw [spec_Point.l0]
  simp only [W.out]
  by_cases hlt:j < i + n
  ·rw [if_pos (by omega),if_pos (by omega),if_pos (by omega)]
   have W1:=w64s j (by omega)
   split
   ·exact ⟨0,0,rfl,.inl rfl⟩
   ·split
    ·exact ⟨0,0,rfl,.inl rfl⟩
    ·rw [W1.out]
     exact ih (j + 1) _ (by omega) (by omega)
  ·rw [if_neg (by omega)]
   split
   ·exact ⟨0,0,rfl,.inl rfl⟩
   ·split
    ·exact ⟨0,0,rfl,.inl rfl⟩
    ·split
     ·split
      ·exact ⟨0,0,rfl,.inl rfl⟩
      ·exact ⟨x4,n,rfl,.inr rfl⟩
     ·exact ⟨x4,n,rfl,.inr rfl⟩
theorem point_j2 (s:ByteArray) (hs:s.size ≤ 100000) (i n:Nat) (x4 x7:Int) (hi:i < s.size) (hn:n ≤ 4) :
  ∃ (c:Int) (n':Nat),spec_Point.j2 10 s i x4 n x7 = some (c,(n':Int)) ∧ (n' = 0 ∨ 1 ≤ n' ∧ n' ≤ 4 ∧ i + n' ≤ s.size):=by
 have W:Aside0 (wrap64 ((i:Int) + (n:Int)) = ((i + n:Nat):Int)):=⟨by rw [w64 (by omega) (by omega)];omega⟩
 have W1:=w64s i (by omega)
 simp only [spec_Point.j2,spec_Point.j3,W.out,W1.out]
 by_cases h0:n = 0
 ·subst h0
  exact ⟨0,0,by simp,.inl rfl⟩
 ·rw [if_neg (by omega)]
  by_cases hb:((i + n:Nat):Int) > (s.size:Int)
  ·rw [if_pos (by simpa using hb)]
   exact ⟨0,0,rfl,.inl rfl⟩
  ·rw [if_neg (by simpa using hb)]
   obtain ⟨c,n',h,hn'⟩:=point_l0 s hs i n x7 (by omega) hn 7 (i + 1) x4 (by omega) (by omega)
   refine ⟨c,n',h,?_⟩
   rcases hn' with e | e
   ·exact .inl e
   ·exact .inr (by omega)
theorem wrap_bt (s:ByteArray) (i:Int):wrap64 (bt s i) = bt s i:=by
 have:=bt_range s i
 exact w64 (by omega) (by omega)
theorem point_tells (s:ByteArray) (hs:s.size ≤ 100000) (i:Nat) (hi:i < s.size) :
  ∃ (c:Int) (n:Nat),(∀ k,12 ≤ k → spec_Point.f k s i = some (c,(n:Int))) ∧ (n = 0 ∨ 1 ≤ n ∧ n ≤ 4 ∧ i + n ≤ s.size):=by
 have key:∃ (c:Int) (n:Nat),spec_Point.f 12 s i = some (c,(n:Int)) ∧ (n = 0 ∨ 1 ≤ n ∧ n ≤ 4 ∧ i + n ≤ s.size):=by
  have up:∀ (k:Nat) (x4 x5 x7:Int) (r:Int × Int),spec_Point.j2 k s i x4 x5 x7 = some r → spec_Point.j2 (k + 1) s i x4 x5 x7 = some r:=fun k x4 x5 x7 r h=>(spec_Point.mono_l k).1 _ _ _ _ _ r h
  obtain ⟨b,hb⟩:∃ b,b = bt s (i:Int):=⟨_,rfl⟩
  have hr:=bt_range s (i:Int)
  simp only [spec_Point.f,wrap_bt]
  rw [if_pos (by omega),if_pos (by omega),← hb]
  rw [← hb] at hr
  split
  ·exact ⟨b,1,rfl,.inr (by omega)⟩
  ·have hj1:∀ q:Bool,∃ (c:Int) (n:Nat),spec_Point.j1 11 s i 0 0 b 0 q = some (c,(n:Int)) ∧ (n = 0 ∨ 1 ≤ n ∧ n ≤ 4 ∧ i + n ≤ s.size):=by
    intro q
    simp only [spec_Point.j1]
    split
    ·exact point_j2 s hs i 3 _ _ hi (by omega)
    ·split
     ·split
      ·exact point_j2 s hs i 4 _ _ hi (by omega)
      ·exact point_j2 s hs i 0 _ _ hi (by omega)
     ·exact point_j2 s hs i 0 _ _ hi (by omega)
   have hj0:∀ q:Bool,∃ (c:Int) (n:Nat),spec_Point.j0 12 s i 0 0 b 0 q = some (c,(n:Int)) ∧ (n = 0 ∨ 1 ≤ n ∧ n ≤ 4 ∧ i + n ≤ s.size):=by
    intro q
    simp only [spec_Point.j0]
    split
    ·obtain ⟨c,n,h,hn⟩:=point_j2 s hs i 2 (wrap64 (b - 192)) 128 hi (by omega)
     exact ⟨c,n,up 10 _ _ _ _ h,hn⟩
    ·split
     ·exact hj1 _
     ·exact hj1 _
   split
   ·exact hj0 _
   ·exact hj0 _
 obtain ⟨c,n,h,hn⟩:=key
 exact ⟨c,n,fun k hk=>at_rounds (g:=fun k=>spec_Point.f k s i) (fun k=>spec_Point.mono _ _ k) hk h,hn⟩
theorem utf8_loop (s:ByteArray) (hs:s.size ≤ 100000):∀ (n i:Nat),s.size - i < n → i ≤ s.size → ∃ b:Bool,spec_UTF8.l0 (n + 20) s i = some b:=by
 intro n
 induction n with
 | zero=>intro i h;omega
 | succ n ih=>
  intro i hn hi
  rw [show n + 1 + 20 = (n + 20) + 1 by omega]
  simp only [spec_UTF8.l0]
  by_cases hlt:i < s.size
  ·obtain ⟨c,m,hp,hm⟩:=point_tells s hs i hlt
   rw [if_pos (by omega),hp _ (by omega)]
   simp only [Option.bind_some]
   rcases hm with h0 | ⟨h1,h4,hle⟩
   ·subst h0
    exact ⟨false,by simp⟩
   ·rw [if_neg (by omega)]
    have W:wrap64 ((i:Int) + (m:Int)) = ((i + m:Nat):Int):=by rw [w64 (by omega) (by omega)];omega
    rw [W]
    obtain ⟨b,hb⟩:=ih (i + m) (by omega) hle
    exact ⟨b,hb⟩
  ·rw [if_neg (by omega)]
   exact ⟨true,rfl⟩
theorem utf8_tells (s:ByteArray) (hs:s.size ≤ 100000):∃ b:Bool,∀ k,100100 ≤ k → spec_UTF8.f k s = some b:=by
 obtain ⟨b,hb⟩:=utf8_loop s hs (s.size + 1) 0 (by omega) (by omega)
 exact ⟨b,fun k hk=>at_rounds (g:=fun k=>spec_UTF8.f k s) (fun k=>spec_UTF8.mono _ k) (show s.size + 1 + 20 ≤ k by omega) (by simpa [spec_UTF8.f] using hb)⟩
theorem short_tells (s:ByteArray):∃ b,laws_short9.f 100100 s = some b ∧ (b = true → s.size ≤ 2000):=by
 unfold laws_short9.f
 by_cases h:(s.size:Int) ≤ 2000
 ·obtain ⟨b,hb⟩:=utf8_tells s (by omega)
  rw [if_pos h,hb _ (Nat.le_refl _)]
  exact ⟨b,rfl,fun _=>by omega⟩
 ·rw [if_neg h]
  exact ⟨false,rfl,fun h=>by cases h⟩
end Go.Proofs.YtbobbognjmofdaaGreatDoor.PFnReadString
end
section
namespace Go.Proofs.YtbobbognjmofdaaGreatDoor.Lex
open Go.RowKit Go.Proofs.YtbobbognjmofdaaGreatDoorW.PrintWords Go.Proofs.YtbobbognjmofdaaGreatDoorW.PrintLast Go.Proofs.YtbobbognjmofdaaGreatDoorW.PrintMore
open Go.Proofs.YtbobbognjmofdaaGreatDoor.Ptext
set_option linter.unusedVariables false
set_option linter.unusedSimpArgs false
theorem src_bytes (w:World) (s:ByteArray) (hs:s.size ≤ 2000) (hT:Lib.Utf8Tabs 1 2 w):Src (Lib.bytesWorld w 5 s) w.heap.size (grownCap w s.size 0 5) s:=
 ⟨Kd.C_of_reads (enc:=Value.int .u8) (d:=(0:Int)) (bytes_reads w 5 s (by omega)),grownCap_ge w s.size 0 5,by rw [Lib.bytesWorld_size];omega,tabs_below hT (bytes_below (Below.refl _ _) (Nat.le_refl _) 5 s)⟩
end Go.Proofs.YtbobbognjmofdaaGreatDoor.Lex
end
end
section
section
namespace Go.Proofs.YtbobbognjmofdaaGreatDoor.Lex
open Go.RowKit Go.Proofs.YtbobbognjmofdaaGreatDoorW.PrintWords Go.Proofs.YtbobbognjmofdaaGreatDoorW.PrintLast Go.Proofs.YtbobbognjmofdaaGreatDoorW.PrintMore
open Go.Proofs.YtbobbognjmofdaaGreatDoor.Ptext
set_option linter.unusedVariables false
set_option linter.unusedSimpArgs false
end Go.Proofs.YtbobbognjmofdaaGreatDoor.Lex
end
section
namespace Go.Proofs.YtbobbognjmofdaaGreatDoor.Lex
open Go.RowKit Go.Proofs.YtbobbognjmofdaaGreatDoorW.PrintWords Go.Proofs.YtbobbognjmofdaaGreatDoorW.PrintLast Go.Proofs.YtbobbognjmofdaaGreatDoorW.PrintMore
open Go.Proofs.YtbobbognjmofdaaGreatDoor.Ptext
set_option linter.unusedVariables false
set_option linter.unusedSimpArgs false
set_option maxRecDepth 4000 in
set_option maxHeartbeats 1000000 in
theorem block_any (base g:Nat) (x:LS) (w:World) (h:Lx w base g x) (hbase:base ≤ w.heap.size) (hi:0 ≤ x.at_) (hi2:x.at_ ≤ x.s.size) (hs:x.s.size ≤ 2000) (hl:(x.out.length + 1) * 40 ≤ 140737488355328)
  (
  hpt:∀ p:Int,0 ≤ p → p < x.s.size → spec_Point.f 12 x.s p = some (ptS x.s p) ∧ ((ptS x.s p).2 = 0 ∨ 1 ≤ (ptS x.s p).2 ∧ (ptS x.s p).2 ≤ 4 ∧ p + (ptS x.s p).2 ≤ x.s.size)) :
  Calls Tryz.prog 65 #[.pointer (some ⟨g,0,none⟩)] w fun e w'=>e = .returned (.tuple #[]) ∧ Lx w' base g (x.stp (ofBlk x.at_ (blk x.s (x.s.size + 1) (x.at_ + 3) ⟨#[]⟩ x.unsure))) ∧ Below base w w':=by
 have HX:=Aside0.mk h
 have HPT:=Aside0.mk hpt
 obtain ⟨v,c0,c1,c2,c3,c4,fz⟩:=h.cells
 clear h hpt
 obtain ⟨R,hR⟩:∃ R,R = blk x.s (x.s.size + 1) (x.at_ + 3) ⟨#[]⟩ x.unsure:=⟨_,rfl⟩
 rw [← hR]
 have HR:=Aside0.mk hR
 clear hR
 go_enter Tryz.func65,Tryz.ntmps65
 go_wp2_with fail
 clear c0 c1 c2 c3 c4 fz
 go_loopg [2,3] (x.s.size + 1) (fun kq v2 v3 wr=>∃ (p:Int) (o:ByteArray) (u:Bool),v2 = .string o ∧ v3 = .int .i64 p ∧ Aside0 (3 ≤ p ∧ p ≤ 10000 ∧ (x.s.size:Int) < p + kq ∧ (o.size:Int) ≤ p ∧ blk x.s kq p o u = R ∧ Lx wr base g { x with unsure:=u } ∧ Below base w wr))
 case atStart=>exact ⟨x.at_ + 3,⟨#[]⟩,x.unsure,rfl,rfl,⟨by omega,by omega,by omega,by show ((0:Nat):Int) ≤ _;omega,HR.out.symm,HX.out,Below.refl _ _⟩⟩
 case round=>
  obtain ⟨p,o,u,rfl,rfl,HA⟩:=hrel
  have hp1:=HA.out.1
  have hp2:=HA.out.2.1
  have hx:=HA.out.2.2.2.2.2.1
  have HL:=Aside0.mk hx
  have HBB:=Aside0.mk HA.out.2.2.2.2.2.2
  obtain ⟨v,c0,c1,c2,c3,c4,fz⟩:=hx.cells
  clear hx
  by_cases hlt:p < (x.s.size:Int)
  ·have hltb:decide (p < (x.s.size:Int)) = true:=decide_eq_true hlt
   obtain ⟨k,rfl⟩:∃ k,gk = k + 1:=⟨gk - 1,by have:=HA.out.2.2.1;omega⟩
   have hrun:=HA.out.2.2.2.2.1
   rw [blk,if_neg (by omega)] at hrun
   have HRUN:=Aside0.mk hrun
   clear hrun
   have hos:(o.size:Int) ≤ p:=HA.out.2.2.2.1
   have hq3:=starts_tells x.s [34,34,34] p (by omega) (by omega) (by omega) (by simp) (by decide) (by decide)
   have hq4:=starts_tells x.s [92,34,34,34] p (by omega) (by omega) (by omega) (by simp) (by decide) (by decide)
   obtain ⟨b3,hb3⟩:∃ b,b = stL x.s p [34,34,34]:=⟨_,rfl⟩
   obtain ⟨b4,hb4⟩:∃ b,b = stL x.s p [92,34,34,34]:=⟨_,rfl⟩
   rw [← hb3] at hq3
   rw [← hb4] at hq4
   have h3:st3 x.s p 34 34 34 = b3:=by rw [hb3,st3_L];rfl
   have h4:(bt x.s p == 92 && st3 x.s (p + 1) 34 34 34) = b4:=by
    rw [hb4,stL,st3_L,nx_bt hlt];rfl
   have hrun:=HRUN.out
   rw [h3,h4] at hrun
   clear HRUN
   have HRUN:=Aside0.mk hrun
   have HQ3:=Aside0.mk hq3
   have HQ4:=Aside0.mk hq4
   clear hrun hb3 hb4 h3 h4 hq3 hq4
   go_wp2_with fail
   refine (PFnTokens.spec_starts.calls x.s p _ b3 _ HQ3.out).mono ?_
   rintro e0 w2 ⟨rfl,hdw⟩
   have HL2:Aside0 (Lx w2 base g { x with unsure:=u }):=by obtain ⟨m9,rfl⟩:=hdw;exact ⟨HL.out.drewN m9⟩
   have HB2:Aside0 (Below base w w2):=by obtain ⟨m9,rfl⟩:=hdw;exact ⟨pw_below_drewN HBB.out m9⟩
   clear hdw c0 c1 c2 c3 c4 fz v
   obtain ⟨v,c0,c1,c2,c3,c4,fz⟩:=HL2.out.cells
   cases b3 with
   | true=>
    have hfin:R = (some (p + 3,o),u):=by rw [← HRUN.out,if_pos rfl]
    have HF:=Aside0.mk hfin
    have hpl:=Bv.plain_tells o (by omega) 800000 (Nat.le_refl _)
    have hbv:=Bv.spec_tells o (by omega) 800000 (Nat.le_refl _)
    have HPL:=Aside0.mk (show PFnTokens.spec_plainBlock.f 800000 o = some (plainB o) from hpl)
    have HBV:=Aside0.mk (show PFnTokens.spec_BlockValue.f 800000 o = some (bvs o) from hbv)
    clear hfin hpl hbv
    have tail:∀ (b:Bool) (W:World),Lx W base g { x with unsure:=u || !plainB o } → Below base w W →
      Calls Tryz.prog 104 #[.string o] W fun e w'=>e = .returned (.string (bvs o)) ∧ Lx w' base g { x with unsure:=u || !plainB o } ∧ Below base w w':=by
     intro b W h1 h2
     refine (PFnTokens.spec_BlockValue.calls 800000 o _ W HBV.out).mono ?_
     rintro e w3 ⟨rfl,hb3⟩
     exact ⟨rfl,h1.below hb3,below_then h2 (Nat.le_trans hbase h2.size) hb3⟩
    have TL:=Aside0.mk tail
    clear tail
    rcases Bool.eq_false_or_eq_true u with hu | hu
    ·subst hu
     have HL5:=Aside0.mk (show Lx (w2.setCell ⟨g,4,none⟩ (.bool true)) base g { x with unsure:=true || !plainB o } from HL2.out.set4 true)
     have HB5:=Aside0.mk (HL2.out.bset HB2.out 4 (.bool true))
     go_wp2_with fail
     refine (TL.out true _ HL5.out HB5.out).mono ?_
     rintro e0 w3 ⟨rfl,h5,h6⟩
     have HL6:=Aside0.mk h5
     have HB6:=Aside0.mk h6
     clear h5 h6
     go_wp2_with fail
     refine (add_any base g _ 19 (p + 3) (bvs o) _ HL6.out (Nat.le_trans hbase HB6.out.size) hl).mono ?_
     rintro e w4 ⟨rfl,h5,h6⟩
     have HL7:=Aside0.mk h5
     have HB7:=Aside0.mk (HB6.out.trans h6)
     clear h5 h6
     go_wp2_with fail
     first | go_end0 | ((try simp only [Exit.inBlock,Exit.then]);refine bodyPost_ret (results_none rfl _ _ _) rfl ?_)
     rw [HF.out]
     exact ⟨rfl,HL7.out,HB7.out⟩
    ·subst hu
     go_wp2_with fail
     refine (PFnTokens.spec_plainBlock.calls 800000 o _ _ HPL.out).mono ?_
     rintro e0 w3 ⟨rfl,h6⟩
     have HL3:=Aside0.mk (HL2.out.below h6)
     have HB3:=Aside0.mk (below_then HB2.out (Nat.le_trans hbase HB2.out.size) h6)
     clear h6 c0 c1 c2 c3 c4 fz v
     obtain ⟨v,c0,c1,c2,c3,c4,fz⟩:=HL3.out.cells
     have HL5:=Aside0.mk (show Lx (w3.setCell ⟨g,4,none⟩ (.bool (!plainB o))) base g { x with unsure:=false || !plainB o } from HL3.out.set4 (!plainB o))
     have HB5:=Aside0.mk (HL3.out.bset HB3.out 4 (.bool (!plainB o)))
     go_wp2_with fail
     refine (TL.out true _ HL5.out HB5.out).mono ?_
     rintro e0 w4 ⟨rfl,h5,h6⟩
     have HL6:=Aside0.mk h5
     have HB6:=Aside0.mk h6
     clear h5 h6
     go_wp2_with fail
     refine (add_any base g _ 19 (p + 3) (bvs o) _ HL6.out (Nat.le_trans hbase HB6.out.size) hl).mono ?_
     rintro e w5 ⟨rfl,h5,h6⟩
     have HL7:=Aside0.mk h5
     have HB7:=Aside0.mk (HB6.out.trans h6)
     clear h5 h6
     go_wp2_with fail
     first | go_end0 | ((try simp only [Exit.inBlock,Exit.then]);refine bodyPost_ret (results_none rfl _ _ _) rfl ?_)
     rw [HF.out]
     exact ⟨rfl,HL7.out,HB7.out⟩
   | false=>
    have hr5:=HRUN.out
    rw [if_neg (by simp)] at hr5
    clear HRUN
    have HRUN:=Aside0.mk hr5
    clear hr5
    go_wp2_with fail
    refine (PFnTokens.spec_starts.calls x.s p _ b4 _ HQ4.out).mono ?_
    rintro e0 w3 ⟨rfl,hdw⟩
    have HL3:Aside0 (Lx w3 base g { x with unsure:=u }):=by obtain ⟨m9,rfl⟩:=hdw;exact ⟨HL2.out.drewN m9⟩
    have HB3:Aside0 (Below base w w3):=by obtain ⟨m9,rfl⟩:=hdw;exact ⟨pw_below_drewN HB2.out m9⟩
    clear hdw c0 c1 c2 c3 c4 fz v
    obtain ⟨v,c0,c1,c2,c3,c4,fz⟩:=HL3.out.cells
    cases b4 with
    | true=>
     have hrec:blk x.s k (p + 4) (o ++ ⟨#[34,34,34]⟩) true = R:=by rw [← HRUN.out,if_pos rfl]
     have HREC:=Aside0.mk hrec
     have hcat:o.size + 3 ≤ 9223372036854775807:=by omega
     clear hrec
     have HL5:=Aside0.mk (HL3.out.set4 true)
     have HB5:=Aside0.mk (HL3.out.bset HB3.out 4 (.bool true))
     go_wp2_with fail
     go_roundg k
     case measure=>omega
     case rel=>
      refine ⟨p + 4,o ++ ⟨#[34,34,34]⟩,true,rfl,rfl,⟨by omega,by omega,by have:=HA.out.2.2.1;omega,by rw [ByteArray.size_append];have:(⟨#[34,34,34]⟩:ByteArray).size = 3:=rfl;omega,HREC.out,HL5.out,HB5.out⟩⟩
    | false=>
     have hr5:=HRUN.out
     rw [if_neg (by simp)] at hr5
     clear HRUN
     have HRUN:=Aside0.mk hr5
     clear hr5
     obtain ⟨hpt,hpn⟩:=HPT.out p (by omega) hlt
     obtain ⟨⟨pc,n⟩,hP⟩:∃ P,P = ptS x.s p:=⟨_,rfl⟩
     rw [← hP] at hpt hpn
     have HP:=Aside0.mk hP
     have HPTT:=Aside0.mk hpt
     have hpn:n = 0 ∨ 1 ≤ n ∧ n ≤ 4 ∧ p + n ≤ (x.s.size:Int):=hpn
     clear hP hpt
     go_wp2_with fail
     refine (spec_Point.calls 12 x.s p pc n _ HPTT.out).mono ?_
     rintro e0 w4 ⟨rfl,⟨m,rfl⟩⟩
     go_wp2_with fail
     refine (spec_source.calls pc _ _ _ (src_tells pc)).mono ?_
     rintro e0 w4 ⟨rfl,⟨m2,rfl⟩⟩
     have HX4:=HL3.out.drewN (m + m2)
     have HXX:=Aside0.mk HX4
     have HB4:=Aside0.mk (pw_below_drewN HB3.out (m + m2))
     clear c0 c1 c2 c3 c4 fz v
     obtain ⟨v,c0,c1,c2,c3,c4,fz⟩:=HX4.cells
     clear HX4
     by_cases hz:n = 0
     ·have hzb:(n == 0) = true:=by simp [hz]
      have hfin:R = (none,true):=by rw [← HRUN.out,← HP.out];exact if_pos hz
      have HF:=Aside0.mk hfin
      clear hfin hz hpn
      rcases Bool.eq_false_or_eq_true u with hu | hu
      all_goals
       rw [hu] at c4
       cases hsr:isSrc pc
       all_goals
        go_wp2_with fail
        refine (fail_any base g { x with unsure:=true } _ (by have:=HXX.out.set4 true;exact this)).mono ?_
        rintro e0 w5 ⟨rfl,hX3,hB3⟩
        have HX3:=Aside0.mk hX3
        have HB5:=Aside0.mk hB3
        clear hX3 hB3
        go_wp2_with fail
        first | go_end0 | ((try simp only [Exit.inBlock,Exit.then]);refine bodyPost_ret (results_none rfl _ _ _) rfl ?_)
        rw [HF.out]
        exact ⟨rfl,HX3.out,(HXX.out.bset HB4.out 4 _).trans HB5.out⟩
     ·have hzb:(n == 0) = false:=by simp [hz]
      cases hsr:isSrc pc with
      | false=>
       have hfin:R = (none,u):=by
        rw [← HRUN.out,← HP.out]
        show (if n = 0 then _ else if isSrc pc = false then _ else _) = _
        rw [if_neg hz,if_pos hsr]
       have HF:=Aside0.mk hfin
       clear hfin hz hpn
       rcases Bool.eq_false_or_eq_true u with hu | hu
       all_goals
        subst hu
        go_wp2_with fail
       ·refine (fail_any base g { x with unsure:=true } _ (by have:=HXX.out.set4 true;exact this)).mono ?_
        rintro e0 w5 ⟨rfl,hX3,hB3⟩
        have HX3:=Aside0.mk hX3
        have HB5:=Aside0.mk hB3
        clear hX3 hB3
        go_wp2_with fail
        first | go_end0 | ((try simp only [Exit.inBlock,Exit.then]);refine bodyPost_ret (results_none rfl _ _ _) rfl ?_)
        rw [HF.out]
        exact ⟨rfl,HX3.out,(HXX.out.bset HB4.out 4 _).trans HB5.out⟩
       ·refine (fail_any base g { x with unsure:=false } _ (by have:=HXX.out.set4 false;exact this)).mono ?_
        rintro e0 w5 ⟨rfl,hX3,hB3⟩
        have HX3:=Aside0.mk hX3
        have HB5:=Aside0.mk hB3
        clear hX3 hB3
        go_wp2_with fail
        first | go_end0 | ((try simp only [Exit.inBlock,Exit.then]);refine bodyPost_ret (results_none rfl _ _ _) rfl ?_)
        rw [HF.out]
        exact ⟨rfl,HX3.out,(HXX.out.bset HB4.out 4 _).trans HB5.out⟩
      | true=>
       have hn1:1 ≤ n:=by omega
       have hn4:n ≤ 4:=by omega
       have hn5:p + n ≤ (x.s.size:Int):=by omega
       obtain ⟨q,hq⟩:∃ q,q = x.s.extract p.toNat (p + n).toNat:=⟨_,rfl⟩
       have hqs:(q.size:Int) = n:=by rw [hq,ByteArray.size_extract];omega
       have ks:=fun W=>slice_str x.s p (p + n) (by omega) (by omega) hn5 W
       rw [← hq] at ks
       have hcat:o.size + q.size ≤ 9223372036854775807:=by omega
       have hrec:blk x.s k (p + n) (o ++ q) (u || decide (65535 < pc)) = R:=by
        rw [← HRUN.out,← HP.out,hq]
        show _ = (if n = 0 then _ else if isSrc pc = false then _ else _)
        rw [if_neg hz,if_neg (by simp [hsr])]
       have HREC:=Aside0.mk hrec
       clear hrec hz hpn hq
       rcases Bool.eq_false_or_eq_true u with hu | hu
       all_goals
        subst hu
        go_wp2_with fail
        go_roundg k
        case measure=>omega
        case rel=>
         refine ⟨p + n,o ++ q,_,rfl,rfl,⟨by omega,by omega,by have:=HA.out.2.2.1;omega,by rw [ByteArray.size_append];push_cast;omega,HREC.out,?_,HXX.out.bset HB4.out 4 _⟩⟩
         have hnot:(!decide (pc ≤ 65535)) = decide (65535 < pc):=by by_cases h:pc ≤ 65535 <;> simp [h] <;> omega
         first
         | exact HXX.out.set4 true
         | (rw [hnot];exact HXX.out.set4 (decide (65535 < pc)))
  ·have hltb:decide (p < (x.s.size:Int)) = false:=decide_eq_false hlt
   have hfin:R = (none,u):=by
    rw [← HA.out.2.2.2.2.1]
    cases gk with
    | zero=>rfl
    | succ k=>rw [blk,if_pos (by omega)]
   have HF:=Aside0.mk hfin
   clear hfin
   go_wp2_with fail
   refine (fail_any base g { x with unsure:=u } _ HL.out).mono ?_
   rintro e w2 ⟨rfl,hX2,hB2⟩
   have HX2:=Aside0.mk hX2
   have HB2:=Aside0.mk hB2
   clear hX2 hB2
   go_wp2_with fail
   first | go_end0 | ((try simp only [Exit.inBlock,Exit.then]);refine bodyPost_ret (results_none rfl _ _ _) rfl ?_)
   rw [HF.out]
   exact ⟨rfl,HX2.out,HBB.out.trans HB2.out⟩
end Go.Proofs.YtbobbognjmofdaaGreatDoor.Lex
end
end
