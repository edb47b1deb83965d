import Derived.Test.YtbobbognjmofdaaGreatDoorV04
import Derived.Deep.DeepCutAuto
import Derived.Deep.RegionWith
import Derived.RegionTactic
import Derived.BigRegion
import Derived.ChangeAlike
section
section
namespace Go.Proofs.YtbobbognjmofdaaGreatDoor.PFnTokens
open Go.RowKit Go.Proofs.YtbobbognjmofdaaGreatDoorW.PrintWords Go.Proofs.YtbobbognjmofdaaGreatDoorW.PrintLast Go.Proofs.YtbobbognjmofdaaGreatDoorW.PrintMore
attribute [local go_sem] max2_int min2_int max_two min_two
set_option linter.unusedVariables false
set_option linter.unusedSimpArgs false
def spec_sign.f (a0:Int):Option (Int):=if a0 = 33 then (some 2) else (if a0 = 36 then (some 3) else (if a0 = 40 then (some 4) else (if a0 = 41 then (some 5) else (if a0 = 58 then (some 7) else (if a0 = 61 then (some 8) else (if a0 = 64 then (some 9) else (if a0 = 91 then (some 10) else (if a0 = 93 then (some 11) else (if a0 = 123 then (some 12) else (if a0 = 124 then (some 13) else (if a0 = 125 then (some 14) else (if a0 = 38 then (some 20) else (some 0)))))))))))))
set_option maxHeartbeats 8000000 in
set_option maxRecDepth 100000 in
theorem spec_sign.calls (a0:Int) (r:Int) (w:World) (h:spec_sign.f a0 = some r) :
  Calls Tryz.prog 60 #[.int .u8 a0] w fun e w'=>e = .returned (.int .i64 r) ∧ Drawn0 w w':=by
 have H:(if a0 = 33 then (some 2) else (if a0 = 36 then (some 3) else (if a0 = 40 then (some 4) else (if a0 = 41 then (some 5) else (if a0 = 58 then (some 7) else (if a0 = 61 then (some 8) else (if a0 = 64 then (some 9) else (if a0 = 91 then (some 10) else (if a0 = 93 then (some 11) else (if a0 = 123 then (some 12) else (if a0 = 124 then (some 13) else (if a0 = 125 then (some 14) else (if a0 = 38 then (some 20) else (some 0)))))))))))))) = some r:=h
 clear h
 by_cases c2:a0 = 33
 ·rw [if_pos c2] at H
  have c2b0:(a0 == 33) = true:=beq_iff_eq.mpr c2
  have c2b1:(a0 != 33) = false:=bne_eq_false_iff_eq.mpr c2
  clear c2
  obtain rfl:=Option.some.inj H
  go_enter Tryz.func60,Tryz.ntmps60
  go_wp2
  go_ret
  exact ⟨by first | rfl | (simp;done) | (simp [*];done),by repeat (first | exact Drawn0.refl _ | apply Drawn0.step)⟩
 ·rw [if_neg c2] at H
  have c2b0:(a0 == 33) = false:=beq_eq_false_iff_ne.mpr c2
  have c2b1:(a0 != 33) = true:=bne_iff_ne.mpr c2
  by_cases c3:a0 = 36
  ·rw [if_pos c3] at H
   have c3b0:(a0 == 36) = true:=beq_iff_eq.mpr c3
   have c3b1:(a0 != 36) = false:=bne_eq_false_iff_eq.mpr c3
   clear c3
   obtain rfl:=Option.some.inj H
   go_enter Tryz.func60,Tryz.ntmps60
   go_wp2
   go_ret
   exact ⟨by first | rfl | (simp;done) | (simp [*];done),by repeat (first | exact Drawn0.refl _ | apply Drawn0.step)⟩
  ·rw [if_neg c3] at H
   have c3b0:(a0 == 36) = false:=beq_eq_false_iff_ne.mpr c3
   have c3b1:(a0 != 36) = true:=bne_iff_ne.mpr c3
   by_cases c4:a0 = 40
   ·rw [if_pos c4] at H
    have c4b0:(a0 == 40) = true:=beq_iff_eq.mpr c4
    have c4b1:(a0 != 40) = false:=bne_eq_false_iff_eq.mpr c4
    clear c4
    obtain rfl:=Option.some.inj H
    go_enter Tryz.func60,Tryz.ntmps60
    go_wp2
    go_ret
    exact ⟨by first | rfl | (simp;done) | (simp [*];done),by repeat (first | exact Drawn0.refl _ | apply Drawn0.step)⟩
   ·rw [if_neg c4] at H
    have c4b0:(a0 == 40) = false:=beq_eq_false_iff_ne.mpr c4
    have c4b1:(a0 != 40) = true:=bne_iff_ne.mpr c4
    by_cases c5:a0 = 41
    ·rw [if_pos c5] at H
     have c5b0:(a0 == 41) = true:=beq_iff_eq.mpr c5
     have c5b1:(a0 != 41) = false:=bne_eq_false_iff_eq.mpr c5
     clear c5
     obtain rfl:=Option.some.inj H
     go_enter Tryz.func60,Tryz.ntmps60
     go_wp2
     go_ret
     exact ⟨by first | rfl | (simp;done) | (simp [*];done),by repeat (first | exact Drawn0.refl _ | apply Drawn0.step)⟩
    ·rw [if_neg c5] at H
     have c5b0:(a0 == 41) = false:=beq_eq_false_iff_ne.mpr c5
     have c5b1:(a0 != 41) = true:=bne_iff_ne.mpr c5
     by_cases c6:a0 = 58
     ·rw [if_pos c6] at H
      have c6b0:(a0 == 58) = true:=beq_iff_eq.mpr c6
      have c6b1:(a0 != 58) = false:=bne_eq_false_iff_eq.mpr c6
      clear c6
      obtain rfl:=Option.some.inj H
      go_enter Tryz.func60,Tryz.ntmps60
      go_wp2
      go_ret
      exact ⟨by first | rfl | (simp;done) | (simp [*];done),by repeat (first | exact Drawn0.refl _ | apply Drawn0.step)⟩
     ·rw [if_neg c6] at H
      have c6b0:(a0 == 58) = false:=beq_eq_false_iff_ne.mpr c6
      have c6b1:(a0 != 58) = true:=bne_iff_ne.mpr c6
      by_cases c7:a0 = 61
      ·rw [if_pos c7] at H
       have c7b0:(a0 == 61) = true:=beq_iff_eq.mpr c7
       have c7b1:(a0 != 61) = false:=bne_eq_false_iff_eq.mpr c7
       clear c7
       obtain rfl:=Option.some.inj H
       go_enter Tryz.func60,Tryz.ntmps60
       go_wp2
       go_ret
       exact ⟨by first | rfl | (simp;done) | (simp [*];done),by repeat (first | exact Drawn0.refl _ | apply Drawn0.step)⟩
      ·rw [if_neg c7] at H
       have c7b0:(a0 == 61) = false:=beq_eq_false_iff_ne.mpr c7
       have c7b1:(a0 != 61) = true:=bne_iff_ne.mpr c7
       by_cases c8:a0 = 64
       ·rw [if_pos c8] at H
        have c8b0:(a0 == 64) = true:=beq_iff_eq.mpr c8
        have c8b1:(a0 != 64) = false:=bne_eq_false_iff_eq.mpr c8
        clear c8
        obtain rfl:=Option.some.inj H
        go_enter Tryz.func60,Tryz.ntmps60
        go_wp2
        go_ret
        exact ⟨by first | rfl | (simp;done) | (simp [*];done),by repeat (first | exact Drawn0.refl _ | apply Drawn0.step)⟩
       ·rw [if_neg c8] at H
        have c8b0:(a0 == 64) = false:=beq_eq_false_iff_ne.mpr c8
        have c8b1:(a0 != 64) = true:=bne_iff_ne.mpr c8
        by_cases c9:a0 = 91
        ·rw [if_pos c9] at H
         have c9b0:(a0 == 91) = true:=beq_iff_eq.mpr c9
         have c9b1:(a0 != 91) = false:=bne_eq_false_iff_eq.mpr c9
         clear c9
         obtain rfl:=Option.some.inj H
         go_enter Tryz.func60,Tryz.ntmps60
         go_wp2
         go_ret
         exact ⟨by first | rfl | (simp;done) | (simp [*];done),by repeat (first | exact Drawn0.refl _ | apply Drawn0.step)⟩
        ·rw [if_neg c9] at H
         have c9b0:(a0 == 91) = false:=beq_eq_false_iff_ne.mpr c9
         have c9b1:(a0 != 91) = true:=bne_iff_ne.mpr c9
         by_cases c10:a0 = 93
         ·rw [if_pos c10] at H
          have c10b0:(a0 == 93) = true:=beq_iff_eq.mpr c10
          have c10b1:(a0 != 93) = false:=bne_eq_false_iff_eq.mpr c10
          clear c10
          obtain rfl:=Option.some.inj H
          go_enter Tryz.func60,Tryz.ntmps60
          go_wp2
          go_ret
          exact ⟨by first | rfl | (simp;done) | (simp [*];done),by repeat (first | exact Drawn0.refl _ | apply Drawn0.step)⟩
         ·rw [if_neg c10] at H
          have c10b0:(a0 == 93) = false:=beq_eq_false_iff_ne.mpr c10
          have c10b1:(a0 != 93) = true:=bne_iff_ne.mpr c10
          by_cases c11:a0 = 123
          ·rw [if_pos c11] at H
           have c11b0:(a0 == 123) = true:=beq_iff_eq.mpr c11
           have c11b1:(a0 != 123) = false:=bne_eq_false_iff_eq.mpr c11
           clear c11
           obtain rfl:=Option.some.inj H
           go_enter Tryz.func60,Tryz.ntmps60
           go_wp2
           go_ret
           exact ⟨by first | rfl | (simp;done) | (simp [*];done),by repeat (first | exact Drawn0.refl _ | apply Drawn0.step)⟩
          ·rw [if_neg c11] at H
           have c11b0:(a0 == 123) = false:=beq_eq_false_iff_ne.mpr c11
           have c11b1:(a0 != 123) = true:=bne_iff_ne.mpr c11
           by_cases c12:a0 = 124
           ·rw [if_pos c12] at H
            have c12b0:(a0 == 124) = true:=beq_iff_eq.mpr c12
            have c12b1:(a0 != 124) = false:=bne_eq_false_iff_eq.mpr c12
            clear c12
            obtain rfl:=Option.some.inj H
            go_enter Tryz.func60,Tryz.ntmps60
            go_wp2
            go_ret
            exact ⟨by first | rfl | (simp;done) | (simp [*];done),by repeat (first | exact Drawn0.refl _ | apply Drawn0.step)⟩
           ·rw [if_neg c12] at H
            have c12b0:(a0 == 124) = false:=beq_eq_false_iff_ne.mpr c12
            have c12b1:(a0 != 124) = true:=bne_iff_ne.mpr c12
            by_cases c13:a0 = 125
            ·rw [if_pos c13] at H
             have c13b0:(a0 == 125) = true:=beq_iff_eq.mpr c13
             have c13b1:(a0 != 125) = false:=bne_eq_false_iff_eq.mpr c13
             clear c13
             obtain rfl:=Option.some.inj H
             go_enter Tryz.func60,Tryz.ntmps60
             go_wp2
             go_ret
             exact ⟨by first | rfl | (simp;done) | (simp [*];done),by repeat (first | exact Drawn0.refl _ | apply Drawn0.step)⟩
            ·rw [if_neg c13] at H
             have c13b0:(a0 == 125) = false:=beq_eq_false_iff_ne.mpr c13
             have c13b1:(a0 != 125) = true:=bne_iff_ne.mpr c13
             by_cases c14:a0 = 38
             ·rw [if_pos c14] at H
              have c14b0:(a0 == 38) = true:=beq_iff_eq.mpr c14
              have c14b1:(a0 != 38) = false:=bne_eq_false_iff_eq.mpr c14
              clear c14
              obtain rfl:=Option.some.inj H
              go_enter Tryz.func60,Tryz.ntmps60
              go_wp2
              go_ret
              exact ⟨by first | rfl | (simp;done) | (simp [*];done),by repeat (first | exact Drawn0.refl _ | apply Drawn0.step)⟩
             ·rw [if_neg c14] at H
              have c14b0:(a0 == 38) = false:=beq_eq_false_iff_ne.mpr c14
              have c14b1:(a0 != 38) = true:=bne_iff_ne.mpr c14
              obtain rfl:=Option.some.inj H
              go_enter Tryz.func60,Tryz.ntmps60
              go_wp2
              go_ret
              exact ⟨by first | rfl | (simp;done) | (simp [*];done),by repeat (first | exact Drawn0.refl _ | apply Drawn0.step)⟩
def spec_isBegin.f (a0:Int):Option (Bool):=if a0 ≥ 97 then (if a0 ≤ 122 then (some true) else (if a0 ≥ 65 then (if a0 ≤ 90 then (some true) else (some (a0 == 95))) else (some (a0 == 95)))) else (if a0 ≥ 65 then (if a0 ≤ 90 then (some true) else (some (a0 == 95))) else (some (a0 == 95)))
set_option maxHeartbeats 8000000 in
set_option maxRecDepth 100000 in
theorem spec_isBegin.calls (a0:Int) (r:Bool) (w:World) (h:spec_isBegin.f a0 = some r) :
  Calls Tryz.prog 61 #[.int .u8 a0] w fun e w'=>e = .returned (.bool r) ∧ Drawn0 w w':=by
 have H:(if a0 ≥ 97 then (if a0 ≤ 122 then (some true) else (if a0 ≥ 65 then (if a0 ≤ 90 then (some true) else (some (a0 == 95))) else (some (a0 == 95)))) else (if a0 ≥ 65 then (if a0 ≤ 90 then (some true) else (some (a0 == 95))) else (some (a0 == 95)))) = some r:=h
 clear h
 by_cases c2:a0 ≥ 97
 ·rw [if_pos c2] at H
  have c2b0:decide (97 ≤ a0) = true:=decide_eq_true c2
  clear c2
  by_cases c3:a0 ≤ 122
  ·rw [if_pos c3] at H
   have c3b0:decide (a0 ≤ 122) = true:=decide_eq_true c3
   clear c3
   obtain rfl:=Option.some.inj H
   go_enter Tryz.func61,Tryz.ntmps61
   go_wp2
   go_ret
   exact ⟨by first | rfl | (simp;done) | (simp [*];done),by repeat (first | exact Drawn0.refl _ | apply Drawn0.step)⟩
  ·rw [if_neg c3] at H
   have c3b0:decide (a0 ≤ 122) = false:=decide_eq_false c3
   clear c3
   by_cases c4:a0 ≥ 65
   ·rw [if_pos c4] at H
    have c4b0:decide (65 ≤ a0) = true:=decide_eq_true c4
    clear c4
    by_cases c5:a0 ≤ 90
    ·rw [if_pos c5] at H
     have c5b0:decide (a0 ≤ 90) = true:=decide_eq_true c5
     clear c5
     obtain rfl:=Option.some.inj H
     go_enter Tryz.func61,Tryz.ntmps61
     go_wp2
     go_ret
     exact ⟨by first | rfl | (simp;done) | (simp [*];done),by repeat (first | exact Drawn0.refl _ | apply Drawn0.step)⟩
    ·rw [if_neg c5] at H
     have c5b0:decide (a0 ≤ 90) = false:=decide_eq_false c5
     clear c5
     obtain rfl:=Option.some.inj H
     go_enter Tryz.func61,Tryz.ntmps61
     go_wp2
     go_ret
     exact ⟨by first | rfl | (simp;done) | (simp [*];done),by repeat (first | exact Drawn0.refl _ | apply Drawn0.step)⟩
   ·rw [if_neg c4] at H
    have c4b0:decide (65 ≤ a0) = false:=decide_eq_false c4
    clear c4
    obtain rfl:=Option.some.inj H
    go_enter Tryz.func61,Tryz.ntmps61
    go_wp2
    go_ret
    exact ⟨by first | rfl | (simp;done) | (simp [*];done),by repeat (first | exact Drawn0.refl _ | apply Drawn0.step)⟩
 ·rw [if_neg c2] at H
  have c2b0:decide (97 ≤ a0) = false:=decide_eq_false c2
  clear c2
  by_cases c6:a0 ≥ 65
  ·rw [if_pos c6] at H
   have c6b0:decide (65 ≤ a0) = true:=decide_eq_true c6
   clear c6
   by_cases c7:a0 ≤ 90
   ·rw [if_pos c7] at H
    have c7b0:decide (a0 ≤ 90) = true:=decide_eq_true c7
    clear c7
    obtain rfl:=Option.some.inj H
    go_enter Tryz.func61,Tryz.ntmps61
    go_wp2
    go_ret
    exact ⟨by first | rfl | (simp;done) | (simp [*];done),by repeat (first | exact Drawn0.refl _ | apply Drawn0.step)⟩
   ·rw [if_neg c7] at H
    have c7b0:decide (a0 ≤ 90) = false:=decide_eq_false c7
    clear c7
    obtain rfl:=Option.some.inj H
    go_enter Tryz.func61,Tryz.ntmps61
    go_wp2
    go_ret
    exact ⟨by first | rfl | (simp;done) | (simp [*];done),by repeat (first | exact Drawn0.refl _ | apply Drawn0.step)⟩
  ·rw [if_neg c6] at H
   have c6b0:decide (65 ≤ a0) = false:=decide_eq_false c6
   clear c6
   obtain rfl:=Option.some.inj H
   go_enter Tryz.func61,Tryz.ntmps61
   go_wp2
   go_ret
   exact ⟨by first | rfl | (simp;done) | (simp [*];done),by repeat (first | exact Drawn0.refl _ | apply Drawn0.step)⟩
def spec_isDigit.f (a0:Int):Option (Bool):=if a0 ≥ 48 then (some (decide (a0 ≤ 57))) else (some false)
set_option maxHeartbeats 8000000 in
set_option maxRecDepth 100000 in
theorem spec_isDigit.calls (a0:Int) (r:Bool) (w:World) (h:spec_isDigit.f a0 = some r) :
  Calls Tryz.prog 63 #[.int .u8 a0] w fun e w'=>e = .returned (.bool r) ∧ Drawn0 w w':=by
 have H:(if a0 ≥ 48 then (some (decide (a0 ≤ 57))) else (some false)) = some r:=h
 clear h
 by_cases c2:a0 ≥ 48
 ·rw [if_pos c2] at H
  have c2b0:decide (48 ≤ a0) = true:=decide_eq_true c2
  clear c2
  obtain rfl:=Option.some.inj H
  go_enter Tryz.func63,Tryz.ntmps63
  go_wp2
  go_ret
  exact ⟨by first | rfl | (simp;done) | (simp [*];done),by repeat (first | exact Drawn0.refl _ | apply Drawn0.step)⟩
 ·rw [if_neg c2] at H
  have c2b0:decide (48 ≤ a0) = false:=decide_eq_false c2
  clear c2
  obtain rfl:=Option.some.inj H
  go_enter Tryz.func63,Tryz.ntmps63
  go_wp2
  go_ret
  exact ⟨by first | rfl | (simp;done) | (simp [*];done),by repeat (first | exact Drawn0.refl _ | apply Drawn0.step)⟩
end Go.Proofs.YtbobbognjmofdaaGreatDoor.PFnTokens
end
section
namespace Go.Proofs.YtbobbognjmofdaaGreatDoor.Lex
open Go.RowKit Go.Proofs.YtbobbognjmofdaaGreatDoorW.PrintWords Go.Proofs.YtbobbognjmofdaaGreatDoorW.PrintLast Go.Proofs.YtbobbognjmofdaaGreatDoorW.PrintMore
open Go.Proofs.YtbobbognjmofdaaGreatDoor.Ptext
set_option linter.unusedVariables false
set_option linter.unusedSimpArgs false
theorem isDg_tells (c:Int):PFnTokens.spec_isDigit.f c = some (isDg c):=by
 unfold PFnTokens.spec_isDigit.f isDg
 by_cases h:c ≥ 48 <;> simp [h] <;> omega
set_option maxHeartbeats 400000 in
theorem digits_any (base g:Nat) (x:LS) (p:Int) (w:World) (h:Lx w base g x) (hi:0 ≤ p) (hp:p ≤ 100000) (hs:x.s.size ≤ 2000) :
  Calls Tryz.prog 144 #[.pointer (some ⟨g,0,none⟩),.int .i64 p] w fun e w'=>e = .returned (.int .i64 (dge x.s p)) ∧ ∃ m,w.drewN m = w':=by
 have HX:=Aside0.mk h
 clear h
 obtain ⟨R,hR⟩:∃ R,R = dge x.s p:=⟨_,rfl⟩
 rw [← hR]
 have HR:=Aside0.mk hR
 clear hR
 go_enter Tryz.func144,Tryz.ntmps144
 go_wp2_with fail
 go_loopg [1] ((x.s.size:Int) - p).toNat (fun kq v1 wr=>∃ (q:Int),v1 = .int .i64 q ∧ Aside0 (0 ≤ q ∧ q ≤ 100000 ∧ kq = ((x.s.size:Int) - q).toNat ∧ dge x.s q = R) ∧ Drawn0 w wr)
 case atStart=>exact ⟨p,rfl,⟨by omega,by omega,rfl,HR.out.symm⟩,Drawn0.refl _⟩
 case round=>
  obtain ⟨q,rfl,HA,⟨m,rfl⟩⟩:=hrel
  have hq0:=HA.out.1
  have hq1:=HA.out.2.1
  have HL:=Aside0.mk (HX.out.drewN m)
  obtain ⟨c,hc⟩:∃ c,c = nx x.s q:=⟨_,rfl⟩
  have HC:=Aside0.mk hc
  clear hc
  go_wp2_with fail
  refine (next_any base g x q _ HL.out (by omega)).mono ?_
  rintro e w2 ⟨rfl,⟨m2,rfl⟩⟩
  rw [← HC.out]
  go_wp2_with fail
  refine (PFnTokens.spec_isDigit.calls c _ _ (isDg_tells c)).mono ?_
  rintro e w2 ⟨rfl,⟨m3,rfl⟩⟩
  cases hd:isDg c with
  | true=>
   have hlt:q < (x.s.size:Int):=nx_in (by rw [← HC.out];intro h0;rw [h0] at hd;cases hd)
   have hn:dge x.s (q + 1) = R:=by
    rw [← HA.out.2.2.2,dge_eq x.s q,← HC.out,if_pos hd]
   have HN:=Aside0.mk hn
   clear hn
   go_wp2_with fail
   go_roundg ((x.s.size:Int) - (q + 1)).toNat
   case measure=>have:=HA.out.2.2.1;omega
   case rel=>exact ⟨q + 1,rfl,⟨by omega,by omega,rfl,HN.out⟩,by repeat (first | exact ⟨_,rfl⟩ | exact Drawn0.refl _ | apply Drawn0.step)⟩
  | false=>
   have hn:R = q:=by rw [← HA.out.2.2.2,dge_none (by rw [← HC.out];exact hd)]
   have HN:=Aside0.mk hn
   clear hn
   go_wp2_with fail
   go_ret
   rw [HN.out]
   exact ⟨rfl,_,rfl⟩
theorem sgnp_le (s:ByteArray) (p:Int):p ≤ sgnp s p ∧ sgnp s p ≤ p + 1:=by unfold sgnp;split <;> omega
theorem epl_le (s:ByteArray) (p:Int):p + 1 ≤ epl s p ∧ epl s p ≤ p + 2:=by unfold epl;split <;> omega
theorem dge_max (s:ByteArray) (p n:Int) (h:p ≤ n) (hn:(s.size:Int) ≤ n):dge s p ≤ n:=by
 by_cases hd:isDg (nx s p) = true
 ·have hlt:p < (s.size:Int):=nx_in (by intro h0;rw [h0] at hd;cases hd)
  have:=(dge_le s p).2 (by omega)
  omega
 ·rw [dge_none (by simpa using hd)];exact h
theorem num_none1 {s:ByteArray} {p:Int} (h:isDg (nx s (sgnp s p)) = false):num s p = none:=by unfold num;rw [if_pos (.inl h)]
set_option maxRecDepth 4000 in
set_option maxHeartbeats 1000000 in
theorem numeral_any (base g:Nat) (x:LS) (p:Int) (w:World) (h:Lx w base g x) (hi:0 ≤ p) (hp:p ≤ 10000) (hs:x.s.size ≤ 2000) :
  Calls Tryz.prog 102 #[.pointer (some ⟨g,0,none⟩),.int .i64 p] w fun e w'=>e = .returned (.tuple #[.int .i64 ((num x.s p).getD (0,0)).1,.int .i64 ((num x.s p).getD (0,0)).2]) ∧ ∃ m,w.drewN m = w':=by
 have HX:=Aside0.mk h
 clear h
 obtain ⟨R,hR⟩:∃ R,R = (num x.s p).getD (0,0):=⟨_,rfl⟩
 rw [← hR]
 have HR:=Aside0.mk hR
 clear hR
 obtain ⟨a,ha⟩:∃ a,a = sgnp x.s p:=⟨_,rfl⟩
 have hal:=sgnp_le x.s p
 rw [← ha] at hal
 have HA:=Aside0.mk ha
 clear ha
 obtain ⟨c0,hc0⟩:∃ c,c = nx x.s p:=⟨_,rfl⟩
 have HC0:=Aside0.mk hc0
 clear hc0
 go_enter Tryz.func102,Tryz.ntmps102
 go_wp2_with fail
 refine (next_any base g x p _ HX.out (by omega)).mono ?_
 rintro e w2 ⟨rfl,⟨m2,rfl⟩⟩
 rw [← HC0.out]
 go_upto_if 11 with fail
 go_cut [1] (fun v1 wc=>v1 = .int .i64 a ∧ Drawn0 w wc)
 case first=>
  by_cases h0:c0 = 45
  ·have h0b:(c0 == 45) = true:=by simp [h0]
   have h1:p + 1 = a:=by rw [HA.out];unfold sgnp;rw [← HC0.out,if_pos h0]
   have H1:=Aside0.mk h1
   clear h1 h0
   go_wp2_with fail
   go_meet
   case rel=>exact ⟨by rw [H1.out],by repeat (first | exact ⟨_,rfl⟩ | exact Drawn0.refl _ | apply Drawn0.step)⟩
  ·have h0b:(c0 == 45) = false:=by simp [h0]
   have h1:p = a:=by rw [HA.out];unfold sgnp;rw [← HC0.out,if_neg h0]
   have H1:=Aside0.mk h1
   clear h1 h0
   go_wp2_with fail
   go_meet
   case rel=>exact ⟨by rw [H1.out],by repeat (first | exact ⟨_,rfl⟩ | exact Drawn0.refl _ | apply Drawn0.step)⟩
 case rest=>
  obtain ⟨rfl,⟨m,rfl⟩⟩:=hcut
  go_wp2_with fail
  obtain ⟨t1,ht1⟩:∃ t,t = dge x.s a:=⟨_,rfl⟩
  have hb1:=dge_max x.s a 10001 (by omega) (by omega)
  have hb0:=(dge_le x.s a).1
  rw [← ht1] at hb1 hb0
  have HT1:=Aside0.mk ht1
  refine (digits_any base g x a _ (HX.out.drewN m) (by omega) (by omega) hs).mono ?_
  rintro e w2 ⟨rfl,⟨m2,rfl⟩⟩
  rw [← HT1.out]
  have HX1:=HX.out.drewN (m + m2)
  obtain ⟨v,q0,q1,q2,q3,q4,fz⟩:=HX1.cells
  clear HX1 ht1
  obtain ⟨c1,hc1⟩:∃ c,c = nx x.s a:=⟨_,rfl⟩
  have HC1:=Aside0.mk hc1
  clear hc1
  obtain ⟨bad,hbad⟩:∃ b:Bool,b = (!isDg c1 || (c1 == 48 && isDg (nx x.s (a + 1)))):=⟨_,rfl⟩
  have HB:=Aside0.mk hbad
  clear hbad
  have HW:=Aside0.mk (show Drawn0 w (w.drewN (m + m2)) from ⟨_,rfl⟩)
  go_upto_region 4 with fail
  go_cut [34] (fun v34 wc=>v34 = .bool bad ∧ Drawn0 w wc)
  case first=>
   by_cases hd:isDg c1 = true
   ·obtain ⟨hlt,hbt⟩:a < (x.s.size:Int) ∧ bt x.s a = c1:=by
     have hlt:a < (x.s.size:Int):=nx_in (by rw [← HC1.out];intro h0;rw [h0] at hd;cases hd)
     exact ⟨hlt,by rw [HC1.out,nx_bt hlt]⟩
    have hbx:=bt_at x.s a
    rw [hbt] at hbx
    clear hbt
    have hd2:=dge_some (s:=x.s) (p:=a) (by rw [← HC1.out];exact hd)
    rw [← HT1.out] at hd2
    obtain ⟨hd2,hd3⟩:=hd2
    have hz2:decide (t1 > a + 1) = isDg (nx x.s (a + 1)):=by
     cases hx:isDg (nx x.s (a + 1)) with
     | true=>have:=(dge_some hx).2;simp;omega
     | false=>have:=dge_none hx;simp;omega
    have hzb:(t1 == a) = false:=by simp;omega
    have HD2:=Aside0.mk hd2
    have HD:=Aside0.mk hd
    clear hd2 hd
    by_cases hz:c1 = 48
    ·have hzc:(c1 == 48) = true:=by simp [hz]
     have h1:bad = decide (t1 > a + 1):=by rw [HB.out,HD.out,hzc,hz2];rfl
     have H1:=Aside0.mk h1
     clear h1 hz hz2
     go_wp2_with fail
     go_meet
     case rel=>exact ⟨by rw [H1.out],by repeat (first | exact HW.out | exact ⟨_,rfl⟩ | exact Drawn0.refl _ | apply Drawn0.step)⟩
    ·have hzc:(c1 == 48) = false:=by simp [hz]
     have h1:bad = false:=by rw [HB.out,HD.out,hzc];rfl
     have H1:=Aside0.mk h1
     clear h1 hz hz2
     go_wp2_with fail
     go_meet
     case rel=>exact ⟨by rw [H1.out],by repeat (first | exact HW.out | exact ⟨_,rfl⟩ | exact Drawn0.refl _ | apply Drawn0.step)⟩
   ·have hzb:(t1 == a) = true:=by
     have:t1 = a:=by rw [HT1.out];exact dge_none (by rw [← HC1.out];simpa using hd)
     simp [this]
    have h1:bad = true:=by rw [HB.out];simp [hd]
    have H1:=Aside0.mk h1
    clear h1 hd
    go_wp2_with fail
    go_meet
    case rel=>exact ⟨by rw [H1.out],by repeat (first | exact HW.out | exact ⟨_,rfl⟩ | exact Drawn0.refl _ | apply Drawn0.step)⟩
  case rest=>
   clear q0 q1 q2 q3 q4 fz
   obtain ⟨rfl,⟨m3,rfl⟩⟩:=hcut
   have hnum:num x.s p = if bad = true then none else (frac x.s t1).bind fun q=>expo x.s q.1 q.2:=by
    unfold num
    rw [← HA.out,← HC1.out,← HT1.out,HB.out]
    cases isDg c1 <;> cases isDg (nx x.s (a + 1)) <;> by_cases h48:c1 = 48 <;> simp [h48]
   have HN:=Aside0.mk hnum
   clear hnum
   cases hbb:bad with
   | true=>
    have hf:R = (0,0):=by rw [HR.out,HN.out,hbb];rfl
    have HF:=Aside0.mk hf
    clear hf
    go_wp2_with fail
    go_ret2
    rw [HF.out]
    exact ⟨rfl,_,rfl⟩
   | false=>
    have hf:R = ((frac x.s t1).bind fun q=>expo x.s q.1 q.2).getD (0,0):=by rw [HR.out,HN.out,hbb];rfl
    have HF:=Aside0.mk hf
    clear hf
    obtain ⟨c2,hc2⟩:∃ c,c = nx x.s t1:=⟨_,rfl⟩
    have HC2:=Aside0.mk hc2
    clear hc2
    go_wp2_with fail
    refine (next_any base g x t1 _ (HX.out.drewN m3) (by omega)).mono ?_
    rintro e w2 ⟨rfl,⟨m4,rfl⟩⟩
    rw [← HC2.out]
    have HX4:=Aside0.mk (HX.out.drewN (m3 + m4))
    have HW:=Aside0.mk (show Drawn0 w (w.drewN (m3 + m4)) from ⟨_,rfl⟩)
    go_upto_if 38 with fail
    go_cut [1,4,5] (fun v1 v4 v5 wc=>∃ (b k t2:Int),v1 = .int .i64 b ∧ v4 = .int .i64 k ∧ v5 = .int .i64 t2 ∧ Aside0 (frac x.s t1 = some (k,t2) ∧ 0 ≤ t2 ∧ t2 ≤ 10003) ∧ Drawn0 w wc)
    case first=>
     by_cases h46:c2 = 46
     ·have h46b:(c2 == 46) = true:=by simp [h46]
      clear h46
      obtain ⟨t2,ht2⟩:∃ t,t = dge x.s (t1 + 1):=⟨_,rfl⟩
      have hc1:=dge_max x.s (t1 + 1) 10002 (by omega) (by omega)
      have hc0:=(dge_le x.s (t1 + 1)).1
      rw [← ht2] at hc1 hc0
      have HT2:=Aside0.mk ht2
      clear ht2
      go_wp2_with fail
      refine (digits_any base g x (t1 + 1) _ HX4.out (by omega) (by omega) hs).mono ?_
      rintro e w2 ⟨rfl,⟨m5,rfl⟩⟩
      rw [← HT2.out]
      cases hd:isDg (nx x.s (t1 + 1)) with
      | true=>
       have hne:(t2 == t1 + 1) = false:=by have:=(dge_some hd).2;simp;rw [HT2.out];omega
       have hfr:frac x.s t1 = some (17,t2):=by unfold frac;rw [← HC2.out,if_pos (by simpa using h46b),if_pos hd,HT2.out]
       have HFR:=Aside0.mk hfr
       clear hfr
       go_wp2_with fail
       go_meet
       case rel=>exact ⟨_,_,_,rfl,rfl,rfl,⟨HFR.out,by omega,by omega⟩,by repeat (first | exact HW.out | exact ⟨_,rfl⟩ | exact Drawn0.refl _ | apply Drawn0.step)⟩
      | false=>
       have hne:(t2 == t1 + 1) = true:=by have:=dge_none hd;simp;rw [HT2.out];exact this
       have hfr:R = (0,0):=by rw [HF.out];unfold frac;rw [← HC2.out,if_pos (by simpa using h46b),if_neg (by simp [hd])];rfl
       have HFR:=Aside0.mk hfr
       clear hfr
       go_wp2_with fail
       go_ret2
       rw [HFR.out]
       exact ⟨rfl,_,rfl⟩
     ·have h46b:(c2 == 46) = false:=by simp [h46]
      have hfr:frac x.s t1 = some (16,t1):=by unfold frac;rw [← HC2.out,if_neg h46]
      have HFR:=Aside0.mk hfr
      clear hfr h46
      go_wp2_with fail
      go_meet
      case rel=>exact ⟨_,_,_,rfl,rfl,rfl,⟨HFR.out,by omega,by omega⟩,by repeat (first | exact HW.out | exact ⟨_,rfl⟩ | exact Drawn0.refl _ | apply Drawn0.step)⟩
    case rest=>
     obtain ⟨b,k,t2,rfl,rfl,rfl,HFR,⟨m5,rfl⟩⟩:=hcut
     have h2a:=HFR.out.2.1
     have h2b:=HFR.out.2.2
     have hf:R = (expo x.s k t2).getD (0,0):=by rw [HF.out,HFR.out.1];rfl
     have HE:=Aside0.mk hf
     clear hf
     obtain ⟨c3,hc3⟩:∃ c,c = nx x.s t2:=⟨_,rfl⟩
     have HC3:=Aside0.mk hc3
     clear hc3
     go_wp2_with fail
     refine (next_any base g x t2 _ (HX.out.drewN m5) (by omega)).mono ?_
     rintro e w2 ⟨rfl,⟨m6,rfl⟩⟩
     rw [← HC3.out]
     have HX6:=Aside0.mk (HX.out.drewN (m5 + m6))
     by_cases he:c3 = 101 ∨ c3 = 69
     ·have HEX:=Aside0.mk he
      obtain ⟨a3,ha3⟩:∃ t,t = epl x.s t2:=⟨_,rfl⟩
      have he3:=epl_le x.s t2
      rw [← ha3] at he3
      have HA3:=Aside0.mk ha3
      obtain ⟨c4,hc4⟩:∃ c,c = nx x.s (t2 + 1):=⟨_,rfl⟩
      have HC4:=Aside0.mk hc4
      clear hc4 ha3
      go_upto_region 13 with fail
      go_cut [56] (fun v56 wc=>v56 = .bool true ∧ Drawn0 w wc)
      case first=>
       have HW:=Aside0.mk (show Drawn0 w (w.drewN (m5 + m6)) from ⟨_,rfl⟩)
       by_cases h101:c3 = 101
       ·have h1:(c3 == 101) = true:=by simp [h101]
        clear he h101
        go_wp2_with fail
        go_meet
        case rel=>exact ⟨rfl,by repeat (first | exact HW.out | exact ⟨_,rfl⟩ | exact Drawn0.refl _ | apply Drawn0.step)⟩
       ·have h1:(c3 == 101) = false:=by simp [h101]
        have h2:(c3 == 69) = true:=by simp;omega
        clear he h101
        go_wp2_with fail
        go_meet
        case rel=>exact ⟨rfl,by repeat (first | exact HW.out | exact ⟨_,rfl⟩ | exact Drawn0.refl _ | apply Drawn0.step)⟩
      case rest=>
       obtain ⟨rfl,⟨m7,rfl⟩⟩:=hcut
       clear he
       have hx:R = (if isDg (nx x.s a3) = true then some (17,dge x.s a3) else none).getD (0,0):=by rw [HE.out];unfold expo;rw [← HC3.out,if_pos HEX.out,← HA3.out]
       have HXX:=Aside0.mk hx
       clear hx
       obtain ⟨t4,ht4⟩:∃ t,t = dge x.s a3:=⟨_,rfl⟩
       have HT4:=Aside0.mk ht4
       clear ht4
       go_wp2_with fail
       refine (next_any base g x (t2 + 1) _ (HX.out.drewN m7) (by omega)).mono ?_
       rintro e w2 ⟨rfl,⟨m8,rfl⟩⟩
       rw [← HC4.out]
       go_upto_region 17 with fail
       go_cut [67] (fun v67 wc=>v67 = .bool (c4 == 43 || c4 == 45) ∧ Drawn0 w wc)
       case first=>
        have HW:=Aside0.mk (show Drawn0 w (w.drewN (m7 + m8)) from ⟨_,rfl⟩)
        by_cases h43:c4 = 43
        ·have h1:(c4 == 43) = true:=by simp [h43]
         clear h43
         go_wp2_with fail
         go_meet
         case rel=>exact ⟨by rw [h1];rfl,by repeat (first | exact HW.out | exact ⟨_,rfl⟩ | exact Drawn0.refl _ | apply Drawn0.step)⟩
        ·have h1:(c4 == 43) = false:=by simp [h43]
         clear h43
         go_wp2_with fail
         go_meet
         case rel=>exact ⟨by rw [h1];rfl,by repeat (first | exact HW.out | exact ⟨_,rfl⟩ | exact Drawn0.refl _ | apply Drawn0.step)⟩
       case rest=>
        obtain ⟨rfl,⟨m9,rfl⟩⟩:=hcut
        have hep:a3 = if (c4 == 43 || c4 == 45) = true then t2 + 2 else t2 + 1:=by
         rw [HA3.out];unfold epl;rw [← HC4.out];simp only [Bool.or_eq_true,beq_iff_eq]
        have HEP:=Aside0.mk hep
        clear hep
        go_upto_if 67 with fail
        go_cut [1] (fun v1 wc=>v1 = .int .i64 a3 ∧ Drawn0 w wc)
        case first=>
         have HW:=Aside0.mk (show Drawn0 w (w.drewN m9) from ⟨_,rfl⟩)
         cases hb:(c4 == 43 || c4 == 45) with
         | true=>
          have h1:t2 + 1 + 1 = a3:=by rw [HEP.out,if_pos hb];omega
          have H1:=Aside0.mk h1
          clear h1
          go_wp2_with fail
          go_meet
          case rel=>exact ⟨by rw [← H1.out],by repeat (first | exact HW.out | exact ⟨_,rfl⟩ | exact Drawn0.refl _ | apply Drawn0.step)⟩
         | false=>
          have h1:t2 + 1 = a3:=by rw [HEP.out,if_neg (by simp [hb])]
          have H1:=Aside0.mk h1
          clear h1
          go_wp2_with fail
          go_meet
          case rel=>exact ⟨by rw [← H1.out],by repeat (first | exact HW.out | exact ⟨_,rfl⟩ | exact Drawn0.refl _ | apply Drawn0.step)⟩
        case rest=>
         obtain ⟨rfl,⟨m10,rfl⟩⟩:=hcut
         go_wp2_with fail
         refine (digits_any base g x a3 _ (HX.out.drewN m10) (by omega) (by omega) hs).mono ?_
         rintro e w2 ⟨rfl,⟨m11,rfl⟩⟩
         rw [← HT4.out]
         cases hd:isDg (nx x.s a3) with
         | true=>
          have hne:(t4 == a3) = false:=by have:=(dge_some hd).2;simp;rw [HT4.out];omega
          have hf:R = (17,t4):=by rw [HXX.out,if_pos hd,HT4.out];rfl
          have HF3:=Aside0.mk hf
          clear hf hd
          go_wp2_with fail
          go_ret2
          rw [HF3.out]
          exact ⟨rfl,_,rfl⟩
         | false=>
          have hne:(t4 == a3) = true:=by have:=dge_none hd;simp;rw [HT4.out];exact this
          have hf:R = (0,0):=by rw [HXX.out,if_neg (by simp [hd])];rfl
          have HF3:=Aside0.mk hf
          clear hf hd
          go_wp2_with fail
          go_ret2
          rw [HF3.out]
          exact ⟨rfl,_,rfl⟩
     ·have h1:(c3 == 101) = false:=by simp;omega
      have h2:(c3 == 69) = false:=by simp;omega
      have hf:R = (k,t2):=by rw [HE.out];unfold expo;rw [← HC3.out,if_neg he];rfl
      have HF2:=Aside0.mk hf
      clear hf he
      go_wp2_with fail
      go_ret2
      rw [HF2.out]
      exact ⟨rfl,_,rfl⟩
theorem isBg_tells (c:Int):PFnTokens.spec_isBegin.f c = some (isBg c):=by
 unfold PFnTokens.spec_isBegin.f isBg
 (repeat' split) <;> first | rfl | (congr 1;simp_all;omega) | (congr 1;simp_all) | (exfalso;omega)
theorem dge_in {s:ByteArray} {a:Int} (h:isDg (nx s a) = true):a < dge s a ∧ dge s a ≤ s.size:=by
 have hlt:a < (s.size:Int):=nx_in (by intro h0;rw [h0] at h;cases h)
 exact ⟨(dge_some h).2,(dge_le s a).2 (by omega)⟩
theorem num_in {s:ByteArray} {p k e:Int} (h:num s p = some (k,e)):(k = 16 ∨ k = 17) ∧ p < e ∧ e ≤ s.size:=by
 have hs:=sgnp_le s p
 unfold num at h
 split at h
 ·cases h
 ·rename_i hc
  have hd:isDg (nx s (sgnp s p)) = true:=by
   cases hx:isDg (nx s (sgnp s p)) with
   | true=>rfl
   | false=>exact absurd (.inl hx) hc
  have h1:=dge_in hd
  have hf:∀ k t,frac s (dge s (sgnp s p)) = some (k,t) → (k = 16 ∨ k = 17) ∧ p < t ∧ t ≤ s.size:=by
   intro k t hf
   unfold frac at hf
   split at hf
   ·split at hf
    ·rename_i hd2
     have h2:=dge_in hd2
     simp only [Option.some.injEq,Prod.mk.injEq] at hf
     omega
    ·cases hf
   ·simp only [Option.some.injEq,Prod.mk.injEq] at hf
    omega
  cases hq:frac s (dge s (sgnp s p)) with
  | none=>rw [hq] at h;cases h
  | some q=>
   obtain ⟨k1,t1⟩:=q
   rw [hq] at h
   have hf:=hf k1 t1 hq
   have h:expo s k1 t1 = some (k,e):=h
   unfold expo at h
   split at h
   ·split at h
    ·rename_i hd2
     have h2:=dge_in hd2
     have h3:=epl_le s t1
     simp only [Option.some.injEq,Prod.mk.injEq] at h
     omega
    ·cases h
   ·simp only [Option.some.injEq,Prod.mk.injEq] at h
    omega
set_option maxRecDepth 4000 in
set_option maxHeartbeats 1000000 in
theorem number_any (base g:Nat) (x:LS) (w:World) (h:Lx w base g x) (hbase:base ≤ w.heap.size) (hi:0 ≤ x.at_) (hi2:x.at_ ≤ x.s.size) (hs:x.s.size ≤ 2000) (hl:(x.out.length + 1) * 40 ≤ 140737488355328) :
  Calls Tryz.prog 64 #[.pointer (some ⟨g,0,none⟩)] w fun e w'=>e = .returned (.tuple #[]) ∧ Lx w' base g (x.stp (nums x.s x.at_ x.unsure)) ∧ Below base w w':=by
 have HX:=Aside0.mk h
 obtain ⟨v,c0,c1,c2,c3,c4,fz⟩:=h.cells
 clear h
 obtain ⟨S,hS⟩:∃ S,S = nums x.s x.at_ x.unsure:=⟨_,rfl⟩
 rw [← hS]
 have HS:=Aside0.mk hS
 clear hS
 go_enter Tryz.func64,Tryz.ntmps64
 go_wp2_with fail
 refine (numeral_any base g x x.at_ w HX.out hi (by omega) hs).mono ?_
 rintro e w2 ⟨rfl,⟨m,rfl⟩⟩
 have HX1:=Aside0.mk (HX.out.drewN m)
 clear c0 c1 c2 c3 c4 fz v
 obtain ⟨v,c0,c1,c2,c3,c4,fz⟩:=HX1.out.cells
 cases hn:num x.s x.at_ with
 | none=>
  have hf:S = .bad x.at_ x.unsure:=by rw [HS.out];unfold nums;rw [hn]
  have HF:=Aside0.mk hf
  clear hf hn
  go_wp2_with fail
  refine (fail_any base g x _ HX1.out).mono ?_
  rintro e w3 ⟨rfl,hX3,hB3⟩
  have HX3:=Aside0.mk hX3
  have HB3:=Aside0.mk ((pw_below_drewN (Below.refl base w) m).trans hB3)
  clear hX3 hB3
  go_wp2_with fail
  first | go_end0 | ((try simp only [Exit.inBlock,Exit.then]);refine bodyPost_ret (results_none rfl _ _ _) rfl ?_)
  rw [HF.out]
  exact ⟨rfl,HX3.out,HB3.out⟩
 | some q=>
  obtain ⟨k,e⟩:=q
  obtain ⟨hk,he1,he2⟩:=num_in hn
  have hk0:(k == 0) = false:=by simp;omega
  have hsf:S = if nx x.s e = 46 ∨ isBg (nx x.s e) = true then .bad x.at_ true else .tok k (x.s.extract x.at_.toNat e.toNat) e x.unsure:=by rw [HS.out];unfold nums;rw [hn]
  obtain ⟨d,hd⟩:∃ d,d = nx x.s e:=⟨_,rfl⟩
  rw [← hd] at hsf
  have HSF:=Aside0.mk hsf
  have HD:=Aside0.mk hd
  clear hsf hd hn hk
  go_wp2_with fail
  refine (next_any base g x e _ HX1.out (by omega)).mono ?_
  rintro e0 w2 ⟨rfl,⟨m2,rfl⟩⟩
  rw [← HD.out]
  have HX2:=Aside0.mk (HX.out.drewN (m + m2))
  clear c0 c1 c2 c3 c4 fz v
  go_upto_region 4 with fail
  go_cut [26] (fun v26 wc=>v26 = .bool (d == 46 || isBg d) ∧ Drawn0 w wc)
  case first=>
   have HW:=Aside0.mk (show Drawn0 w (w.drewN (m + m2)) from ⟨_,rfl⟩)
   by_cases h46:d = 46
   ·have h1:(d == 46) = true:=by simp [h46]
    clear h46
    go_wp2_with fail
    go_meet
    case rel=>exact ⟨by rw [h1];rfl,by repeat (first | exact HW.out | exact ⟨_,rfl⟩ | exact Drawn0.refl _ | apply Drawn0.step)⟩
   ·have h1:(d == 46) = false:=by simp [h46]
    clear h46
    go_wp2_with fail
    refine (PFnTokens.spec_isBegin.calls d _ _ (isBg_tells d)).mono ?_
    rintro e0 w2 ⟨rfl,⟨m3,rfl⟩⟩
    go_wp2_with fail
    go_meet
    case rel=>exact ⟨by rw [h1];rfl,by repeat (first | exact HW.out | exact ⟨_,rfl⟩ | exact Drawn0.refl _ | apply Drawn0.step)⟩
  case rest=>
   obtain ⟨rfl,hdr⟩:=hcut
   have HX3:Aside0 (Lx wc base g x):=by obtain ⟨m9,rfl⟩:=hdr;exact ⟨HX.out.drewN m9⟩
   have HB3:Aside0 (Below base w wc):=by obtain ⟨m9,rfl⟩:=hdr;exact ⟨pw_below_drewN (Below.refl base w) m9⟩
   clear hdr
   obtain ⟨v,c0,c1,c2,c3,c4,fz⟩:=HX3.out.cells
   cases hb:(d == 46 || isBg d) with
   | true=>
    have hf:S = .bad x.at_ true:=by rw [HSF.out,if_pos (by simpa using hb)]
    have HF:=Aside0.mk hf
    clear hf
    go_wp2_with fail
    refine (fail_any base g { x with unsure:=true } _ (HX3.out.set4 true)).mono ?_
    rintro e0 w3 ⟨rfl,hX3,hB3⟩
    have HX4:=Aside0.mk hX3
    have HB4:=Aside0.mk ((HX3.out.bset HB3.out 4 _).trans hB3)
    clear hX3 hB3
    go_wp2_with fail
    first | go_end0 | ((try simp only [Exit.inBlock,Exit.then]);refine bodyPost_ret (results_none rfl _ _ _) rfl ?_)
    rw [HF.out]
    exact ⟨rfl,HX4.out,HB4.out⟩
   | false=>
    have hf:S = .tok k (x.s.extract x.at_.toNat e.toNat) e x.unsure:=by rw [HSF.out,if_neg (by simpa using hb)]
    have HF:=Aside0.mk hf
    obtain ⟨q,hq⟩:∃ q,q = x.s.extract x.at_.toNat e.toNat:=⟨_,rfl⟩
    have ks:=fun W=>slice_str x.s x.at_ e (by omega) (by omega) he2 W
    rw [← hq] at ks
    have HQ:=Aside0.mk hq
    clear hf hq
    go_wp2_with fail
    go_region_with (go_at_call 53;refine (add_any base g x k e q _ ?_ ?_ hl).mono ?_;exact HX3.out.drewN 1;exact Nat.le_trans hbase HB3.out.size;rintro e0 w3 ⟨rfl,hX3,hB3⟩;have HX4:=Aside0.mk hX3;have HB4:=Aside0.mk ((pw_below_drewN HB3.out 1).trans hB3);clear hX3 hB3)
    all_goals
     go_wp2_with fail
     first | go_end0 | ((try simp only [Exit.inBlock,Exit.then]);refine bodyPost_ret (results_none rfl _ _ _) rfl ?_)
     rw [HF.out,← HQ.out]
     exact ⟨rfl,HX4.out,HB4.out⟩
end Go.Proofs.YtbobbognjmofdaaGreatDoor.Lex
end
section
namespace Go.Proofs.YtbobbognjmofdaaGreatDoor.Lex
open Go.RowKit Go.Proofs.YtbobbognjmofdaaGreatDoorW.PrintWords Go.Proofs.YtbobbognjmofdaaGreatDoorW.PrintLast Go.Proofs.YtbobbognjmofdaaGreatDoorW.PrintMore
open Go.Proofs.YtbobbognjmofdaaGreatDoor.Ptext
set_option linter.unusedVariables false
set_option linter.unusedSimpArgs false
set_option maxRecDepth 4000 in
set_option maxHeartbeats 1000000 in
theorem comment_any (base g:Nat) (x:LS) (w:World) (h:Lx w base g x) (hbase:base ≤ w.heap.size) (hi:0 ≤ x.at_) (hi2:x.at_ ≤ x.s.size) (hs:x.s.size ≤ 2000)
  (
  hpt:∀ p:Int,0 ≤ p → p < x.s.size → spec_Point.f 12 x.s p = some (ptS x.s p) ∧ ((ptS x.s p).2 = 0 ∨ 1 ≤ (ptS x.s p).2 ∧ (ptS x.s p).2 ≤ 4 ∧ p + (ptS x.s p).2 ≤ x.s.size)) :
  Calls Tryz.prog 59 #[.pointer (some ⟨g,0,none⟩)] w fun e w'=>e = .returned (.tuple #[]) ∧ Lx w' base g (x.stp (cm x.s (x.s.size + 1) x.at_ x.unsure)) ∧ Below base w w':=by
 have HX:=Aside0.mk h
 have HPT:=Aside0.mk hpt
 clear h hpt
 obtain ⟨S,hS⟩:∃ S,S = cm x.s (x.s.size + 1) x.at_ x.unsure:=⟨_,rfl⟩
 rw [← hS]
 have HS:=Aside0.mk hS
 clear hS
 go_enter Tryz.func59,Tryz.ntmps59
 go_wp2_with fail
 go_loopg [2] (x.s.size + 1) (fun kq v2 wr=>∃ (p:Int) (u:Bool),Aside0 (0 ≤ p ∧ p ≤ x.s.size ∧ (x.s.size:Int) < p + kq ∧ cm x.s kq p u = S ∧ Lx wr base g { x with at_:=p,unsure:=u } ∧ Below base w wr))
 case atStart=>exact ⟨x.at_,x.unsure,⟨by omega,by omega,by omega,HS.out.symm,HX.out,Below.refl _ _⟩⟩
 case round=>
  obtain ⟨p,u,HA⟩:=hrel
  have hp1:=HA.out.1
  have hp2:=HA.out.2.1
  have hx:=HA.out.2.2.2.2.1
  have HL:=Aside0.mk hx
  have HBB:=Aside0.mk HA.out.2.2.2.2.2
  obtain ⟨v,c0,c1,c2,c3,c4,fz⟩:=hx.cells
  clear hx
  obtain ⟨go_,hgo⟩:∃ b:Bool,b = (decide (p < (x.s.size:Int)) && bt x.s p != 10 && bt x.s p != 13):=⟨_,rfl⟩
  have HG:=Aside0.mk hgo
  clear hgo
  go_upto_region 0 with fail
  go_cut [39] (fun v39 wc=>v39 = .bool go_ ∧ ∃ m,wr.drewN m = wc)
  case first=>
   by_cases hlt:p < (x.s.size:Int)
   ·have hltb:decide (p < (x.s.size:Int)) = true:=decide_eq_true hlt
    have hb:=bt_at x.s p
    obtain ⟨ch,hch⟩:∃ ch,ch = bt x.s p:=⟨_,rfl⟩
    rw [← hch] at hb
    have HCH:=Aside0.mk hch
    clear hch
    by_cases e1:ch = 10
    ·have e1b:(ch != 10) = false:=by simp [e1]
     have hg:go_ = false:=by rw [HG.out,← HCH.out,e1b];simp
     have HGG:=Aside0.mk hg
     clear hg e1
     go_region
     go_wp2_with fail
     go_meet
     case rel=>exact ⟨by rw [HGG.out],1,rfl⟩
    ·have e1b:(ch != 10) = true:=by simp [e1]
     have hg:go_ = (ch != 13):=by rw [HG.out,← HCH.out,e1b,hltb];simp
     have HGG:=Aside0.mk hg
     clear hg e1
     go_region
     go_wp2_with fail
     go_meet
     case rel=>exact ⟨by rw [HGG.out],1,rfl⟩
   ·have hltb:decide (p < (x.s.size:Int)) = false:=decide_eq_false hlt
    have hg:go_ = false:=by rw [HG.out,hltb];simp
    have HGG:=Aside0.mk hg
    clear hg
    go_region
    go_wp2_with fail
    go_meet
    case rel=>exact ⟨by rw [HGG.out],1,rfl⟩
  case rest=>
   obtain ⟨rfl,hdr⟩:=hcut
   have HL2:Aside0 (Lx wc base g { x with at_:=p,unsure:=u }):=by obtain ⟨m9,rfl⟩:=hdr;exact ⟨HL.out.drewN m9⟩
   have HB2:Aside0 (Below base w wc):=by obtain ⟨m9,rfl⟩:=hdr;exact ⟨pw_below_drewN HBB.out m9⟩
   clear hdr c0 c1 c2 c3 c4 fz v
   obtain ⟨v,c0,c1,c2,c3,c4,fz⟩:=HL2.out.cells
   cases hg:go_ with
   | false=>
    have hfin:S = .skip p u:=by
     rw [← HA.out.2.2.2.1]
     have h1:=HG.out
     rw [hg] at h1
     cases gk with
     | zero=>rfl
     | succ k=>
      rw [cm]
      by_cases h2:(x.s.size:Int) ≤ p
      ·rw [if_pos h2]
      ·rw [if_neg h2,if_pos]
       have h3:decide (p < (x.s.size:Int)) = true:=decide_eq_true (by omega)
       rw [h3] at h1
       simp at h1
       omega
    have HF:=Aside0.mk hfin
    clear hfin
    go_wp2_with fail
    first | go_end0 | ((try simp only [Exit.inBlock,Exit.then]);refine bodyPost_ret (results_none rfl _ _ _) rfl ?_)
    rw [HF.out]
    exact ⟨rfl,HL2.out,HB2.out⟩
   | true=>
    have h1:=HG.out
    rw [hg] at h1
    simp only [Bool.true_eq,Bool.and_eq_true,decide_eq_true_eq,bne_iff_ne] at h1
    obtain ⟨⟨hlt,h10⟩,h13⟩:=h1
    obtain ⟨k,rfl⟩:∃ k,gk = k + 1:=⟨gk - 1,by have:=HA.out.2.2.1;omega⟩
    have hrun:=HA.out.2.2.2.1
    rw [cm,if_neg (by omega),if_neg (by omega)] at hrun
    have HRUN:=Aside0.mk hrun
    clear hrun hg
    obtain ⟨hpt,hpn⟩:=HPT.out p (by omega) hlt
    obtain ⟨⟨pc,n⟩,hP⟩:∃ P,P = ptS x.s p:=⟨_,rfl⟩
    rw [← hP] at hpt hpn
    have HP:=Aside0.mk hP
    have HPTT:=Aside0.mk hpt
    have hpn:n = 0 ∨ 1 ≤ n ∧ n ≤ 4 ∧ p + n ≤ (x.s.size:Int):=hpn
    clear hP hpt
    go_wp2_with fail
    go_region_with (go_at_call 36;refine (spec_Point.calls 12 x.s p pc n _ HPTT.out).mono ?_;rintro e0 w2 ⟨rfl,hdw⟩;have HDW:=Aside0.mk hdw;clear hdw)
    all_goals
     have HL3:Aside0 (Lx w2 base g { x with at_:=p,unsure:=u }):=by obtain ⟨m9,rfl⟩:=HDW.out;exact ⟨HL2.out.drew.drewN m9⟩
     have HB3:Aside0 (Below base w w2):=by obtain ⟨m9,rfl⟩:=HDW.out;exact ⟨pw_below_drewN (below_drew1 HB2.out) m9⟩
     clear HDW c0 c1 c2 c3 c4 fz v
     by_cases hz:n = 0
     ·have hzb:(n == 0) = true:=by simp [hz]
      have hfin:S = .bad p true:=by rw [← HRUN.out,← HP.out];exact if_pos hz
      have HF:=Aside0.mk hfin
      clear hfin hz hpn
      obtain ⟨v,c0,c1,c2,c3,c4,fz⟩:=HL3.out.cells
      go_wp2_with fail
      first | go_end0 | ((try simp only [Exit.inBlock,Exit.then]);refine bodyPost_ret (results_none rfl _ _ _) rfl ?_)
      rw [HF.out]
      exact ⟨rfl,(HL3.out.set3 true).set4 true,(HL3.out.set3 true).bset (HL3.out.bset HB3.out 3 _) 4 _⟩
     ·have hzb:(n == 0) = false:=by simp [hz]
      have hn1:1 ≤ n:=by omega
      have hn4:n ≤ 4:=by omega
      have hn5:p + n ≤ (x.s.size:Int):=by omega
      obtain ⟨u2,hu2⟩:∃ u2,u2 = (u || decide (65535 < pc) || !isSrc pc || decide (128 ≤ pc)):=⟨_,rfl⟩
      have hrec:cm x.s k (p + n) u2 = S:=by
       rw [← HRUN.out,← HP.out,hu2]
       exact (if_neg hz).symm
      have HREC:=Aside0.mk hrec
      have HU2:=Aside0.mk hu2
      clear hrec hz hpn hu2
      go_wp2_with fail
      refine (spec_source.calls pc _ _ _ (src_tells pc)).mono ?_
      rintro e0 w4 ⟨rfl,hdw⟩
      have HL4:Aside0 (Lx w4 base g { x with at_:=p,unsure:=u }):=by obtain ⟨m9,rfl⟩:=hdw;exact ⟨HL3.out.drewN m9⟩
      have HB4:Aside0 (Below base w w4):=by obtain ⟨m9,rfl⟩:=hdw;exact ⟨pw_below_drewN HB3.out m9⟩
      clear hdw
      obtain ⟨v,c0,c1,c2,c3,c4,fz⟩:=HL4.out.cells
      have fin:∀ b:Bool,b = u2 → Lx (w4.setCell ⟨g,4,none⟩ (.bool b)) base g { x with at_:=p,unsure:=u2 } ∧ Below base w (w4.setCell ⟨g,4,none⟩ (.bool b)):=by
       intro b hb
       subst hb
       exact ⟨HL4.out.set4 b,HL4.out.bset HB4.out 4 _⟩
      have FIN:=Aside0.mk fin
      clear fin
      rcases Bool.eq_false_or_eq_true u with hu | hu
      ·have e:true = u2:=by rw [HU2.out,hu];rfl
       have HE:=Aside0.mk e
       subst hu
       clear e
       obtain ⟨HL5,HB5⟩:=FIN.out true HE.out
       have HL6:=Aside0.mk HL5
       have HB6:=Aside0.mk HB5
       clear HL5 HB5
       go_wp2_with fail
       go_roundg k
       case measure=>omega
       case rel=>exact ⟨p + n,u2,⟨by omega,by omega,by have:=HA.out.2.2.1;omega,HREC.out,HL6.out.set1 (p + n),HL6.out.bset HB6.out 1 _⟩⟩
      ·subst hu
       by_cases h1:pc ≤ 65535
       ·have h1b:decide (pc ≤ 65535) = true:=decide_eq_true h1
        have h1c:decide (65535 < pc) = false:=decide_eq_false (by omega)
        cases hsr:isSrc pc with
        | false=>
         have e:true = u2:=by rw [HU2.out,hsr];simp
         have HE:=Aside0.mk e
         clear e
         obtain ⟨HL5,HB5⟩:=FIN.out true HE.out
         have HL6:=Aside0.mk HL5
         have HB6:=Aside0.mk HB5
         clear HL5 HB5
         go_wp2_with fail
         go_roundg k
         case measure=>omega
         case rel=>exact ⟨p + n,u2,⟨by omega,by omega,by have:=HA.out.2.2.1;omega,HREC.out,HL6.out.set1 (p + n),HL6.out.bset HB6.out 1 _⟩⟩
        | true=>
         have e:decide (pc ≥ 128) = u2:=by rw [HU2.out,hsr,h1c];simp
         have HE:=Aside0.mk e
         clear e
         obtain ⟨HL5,HB5⟩:=FIN.out _ HE.out
         have HL6:=Aside0.mk HL5
         have HB6:=Aside0.mk HB5
         clear HL5 HB5
         go_wp2_with fail
         go_roundg k
         case measure=>omega
         case rel=>exact ⟨p + n,u2,⟨by omega,by omega,by have:=HA.out.2.2.1;omega,HREC.out,HL6.out.set1 (p + n),HL6.out.bset HB6.out 1 _⟩⟩
       ·have h1b:decide (pc ≤ 65535) = false:=decide_eq_false h1
        have h1c:decide (65535 < pc) = true:=decide_eq_true (by omega)
        have e:true = u2:=by rw [HU2.out,h1c];simp
        have HE:=Aside0.mk e
        clear e
        obtain ⟨HL5,HB5⟩:=FIN.out true HE.out
        have HL6:=Aside0.mk HL5
        have HB6:=Aside0.mk HB5
        clear HL5 HB5
        go_wp2_with fail
        go_roundg k
        case measure=>omega
        case rel=>exact ⟨p + n,u2,⟨by omega,by omega,by have:=HA.out.2.2.1;omega,HREC.out,HL6.out.set1 (p + n),HL6.out.bset HB6.out 1 _⟩⟩
end Go.Proofs.YtbobbognjmofdaaGreatDoor.Lex
end
end
