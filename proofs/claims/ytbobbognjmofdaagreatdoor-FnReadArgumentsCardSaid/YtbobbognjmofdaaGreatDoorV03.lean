import Derived.Test.YtbobbognjmofdaaGreatDoorV01
import Derived.Test.YtbobbognjmofdaaGreatDoorV02
import Derived.Test.YtbobbognjmofdaaGreatDoorProg
import Derived.Below
import Derived.Deep.Draws
import Derived.Deep.AppendLies
import Derived.Maps.AppendAt
import Derived.OwnWalk
import Derived.Laws.BytesArg
import Derived.Laws.MakeOwn
import Derived.Laws.OwnMore
import Derived.Deep.OwnRows
import Derived.Tactics
import Derived.Lib.ConvBytes
import Derived.Laws.Slices
import Derived.WalkKit
import Derived.KernelRfl
import Derived.RowKit3
import Derived.Deep.LoopGhost
import Derived.Deep.QuietTactic
import Derived.BigQuiet
import Derived.WideLaws
import Derived.Deep.DeepCutAuto
import Derived.Deep.CutBlock
import Derived.Deep.RegionHeld3
import Derived.Laws.Rows
import Derived.Lib.AppendStr
import Derived.ArgAppend
import Derived.Laws.IdiomCopy
import Derived.OrdersHeld
import Derived.Laws.BitsLemmas
import Derived.RowKit
import Derived.Outline
import Derived.Deep.RegionLaw
import Derived.Laws.Cover4
section
section
namespace Go.Proofs.YtbobbognjmofdaaGreatDoorW.PrintMore
open Go.RowKit Go.Proofs.YtbobbognjmofdaaGreatDoorW.PrintWords
theorem max2_int (k k':IntKind) (x y:Int):Builtin.max2 (.int k x) (.int k' y) = pure (.int k (if x < y then y else x)):=by simp only [Builtin.max2,gt_iff_lt]
theorem min2_int (k k':IntKind) (x y:Int):Builtin.min2 (.int k x) (.int k' y) = pure (.int k (if y < x then y else x)):=by simp only [Builtin.min2]
theorem max_two (ats:Array TypeId) (ty:TypeId) (a b:Value):Builtin.max_ ats ty #[a,b] = (Builtin.max2 a b >>= fun s=>pure s):=by simp only [Builtin.max_,List.foldlM_cons,List.foldlM_nil]
theorem min_two (ats:Array TypeId) (ty:TypeId) (a b:Value):Builtin.min_ ats ty #[a,b] = (Builtin.min2 a b >>= fun s=>pure s):=by simp only [Builtin.min_,List.foldlM_cons,List.foldlM_nil]
end Go.Proofs.YtbobbognjmofdaaGreatDoorW.PrintMore
namespace Go.Proofs.YtbobbognjmofdaaGreatDoorW.PrintWords
open Go.RowKit
section
variable {P:Program} {ops:Array Oper} {rest:List Oper} {o:Oper} {a:Act} {Q:Exit → Act → World → Prop} {W:World}
theorem gate_callee {f:FuncId} {as_:Array Operand} {ts:Array TypeId} (_ho:o.op = .call { callee:=.value (.func f),args:=as_,argTypes:=ts }) (h:wpList P ops Q (o :: rest) a W):wpList P ops Q (o :: rest) a W:=h
theorem gate_builtin {b:Builtin} {xs:Array Operand} {ts:Array TypeId} (_ho:o.op = .call { callee:=.builtin b,args:=xs,argTypes:=ts }) (h:wpList P ops Q (o :: rest) a W):wpList P ops Q (o :: rest) a W:=h
end
def mx (a b:Int):Int:=if a < b then b else a
def mn (a b:Int):Int:=if b < a then b else a
end Go.Proofs.YtbobbognjmofdaaGreatDoorW.PrintWords
end
section
namespace Go.Proofs.YtbobbognjmofdaaGreatDoor.Ptext
open Go.RowKit Go.Proofs.YtbobbognjmofdaaGreatDoorW.PrintWords Go.Proofs.YtbobbognjmofdaaGreatDoorW.PrintLast Go.Proofs.YtbobbognjmofdaaGreatDoorW.PrintMore
attribute [local go_sem] max2_int min2_int max_two min_two
set_option linter.unusedVariables false
set_option linter.unusedSimpArgs false
structure S24 where
 f0:Int
 f1:ByteArray
 f2:Int
 f3:Int
def z24:S24:=⟨(0:Int),(⟨#[]⟩:ByteArray),(0:Int),(0:Int)⟩
def k24:Kd S24:=Kd.iso (Kd.pair (Kd.int .i64) (Kd.pair Kd.string (Kd.pair (Kd.int .i64) (Kd.int .i64)))) (fun x:S24=>(x.f0,x.f1,x.f2,x.f3))
theorem k24_open {w:World} {x:S24} {cs:List Value} (h:k24.K w x cs):cs = [.int .i64 x.f0,.string x.f1,.int .i64 x.f2,.int .i64 x.f3]:=by
 obtain ⟨_,_,rfl,rfl,⟨_,_,rfl,rfl,⟨_,_,rfl,rfl,rfl⟩⟩⟩:=h
 exact rfl
theorem k24_mkM (w:World) (base:Nat) (ok:Nat → Prop) (x:S24)  : k24.M w base ok x [.int .i64 x.f0,.string x.f1,.int .i64 x.f2,.int .i64 x.f3]:=⟨[.int .i64 x.f0],[.string x.f1,.int .i64 x.f2,.int .i64 x.f3],rfl,rfl,⟨[.string x.f1],[.int .i64 x.f2,.int .i64 x.f3],rfl,rfl,⟨[.int .i64 x.f2],[.int .i64 x.f3],rfl,rfl,rfl⟩⟩⟩
def rd_T24 (xs:List S24) (i:Int):S24:=xs.getD i.toNat z24
theorem at_T24 {w:World} {A:Option Addr} {n:Nat} {xs:List S24} (h:Kd.C k24 w A n xs) (i:Int) (h0:0 ≤ i) (h1:i < n):∃ ad , A = some ad ∧ w.cell? (ad.add (i.toNat * 4)) = some (.int .i64 (rd_T24 xs i).f0) ∧ w.cell? ⟨(ad.add (i.toNat * 4)).block,(ad.add (i.toNat * 4)).off + 1,none⟩ = some (.string (rd_T24 xs i).f1) ∧ w.cell? ⟨(ad.add (i.toNat * 4)).block,(ad.add (i.toNat * 4)).off + 2,none⟩ = some (.int .i64 (rd_T24 xs i).f2) ∧ w.cell? ⟨(ad.add (i.toNat * 4)).block,(ad.add (i.toNat * 4)).off + 3,none⟩ = some (.int .i64 (rd_T24 xs i).f3):=by
 obtain ⟨ad,c,e,_,hK,hc0⟩:=Kd.C_get h z24 i h0 h1
 have hc:∀ j u,c[j]? = some u → w.cell? (ad.add (i.toNat * 4 + j)) = some u:=hc0
 obtain rfl:=k24_open hK
 exact ⟨ad,e,hc 0 _ rfl,by rw [← add_field _ _ 1 (by omega)];exact hc 1 _ rfl,by rw [← add_field _ _ 2 (by omega)];exact hc 2 _ rfl,by rw [← add_field _ _ 3 (by omega)];exact hc 3 _ rfl⟩
mutual
def spec_Point.j2:Nat → ByteArray → Int → Int → Int → Int → Option (Int × Int)
 | 0,_,_,_,_,_=>none
 | k + 1,x0,x1,x4,x5,x7=>if x5 = 0 then (spec_Point.j3 k x0 x1 x4 x5 x7 true) else (spec_Point.j3 k x0 x1 x4 x5 x7 (decide ((wrap64 (x1 + x5)) > (x0.size:Int))))
def spec_Point.j3:Nat → ByteArray → Int → Int → Int → Int → Bool → Option (Int × Int)
 | 0,_,_,_,_,_,_=>none
 | k + 1,x0,x1,x4,x5,x7,x53=>if x53 = true then (some (0,0)) else (spec_Point.l0 k x0 x1 x4 x5 x7 (wrap64 (x1 + 1)))
def spec_Point.l0:Nat → ByteArray → Int → Int → Int → Int → Int → Option (Int × Int)
 | 0,_,_,_,_,_,_=>none
 | k + 1,x0,x1,x4,x5,x7,x8=>if x8 < (wrap64 (x1 + x5)) then (if 0 ≤ x8 then (if x8 < (x0.size:Int) then (if (bt x0 x8) < 128 then (some (0,0)) else (if (bt x0 x8) > 191 then (some (0,0)) else (spec_Point.l0 k x0 x1 (wrap64 ((wrap64 ((wrap64 (x4 * 64)) + (wrap64 (bt x0 x8)))) - 128)) x5 x7 (wrap64 (x8 + 1))))) else (none)) else (none)) else (if x4 < x7 then (some (0,0)) else (if x4 > 1114111 then (some (0,0)) else (if x4 ≥ 55296 then (if x4 < 57344 then (some (0,0)) else (some (x4,x5))) else (some (x4,x5)))))
def spec_Point.j0:Nat → ByteArray → Int → Int → Int → Int → Int → Bool → Option (Int × Int)
 | 0,_,_,_,_,_,_,_=>none
 | k + 1,x0,x1,x4,x5,x6,x7,x17=>if x17 = true then (spec_Point.j2 k x0 x1 (wrap64 (x6 - 192)) 2 128) else (if x6 ≥ 224 then (spec_Point.j1 k x0 x1 x4 x5 x6 x7 (decide (x6 < 240))) else (spec_Point.j1 k x0 x1 x4 x5 x6 x7 false))
def spec_Point.j1:Nat → ByteArray → Int → Int → Int → Int → Int → Bool → Option (Int × Int)
 | 0,_,_,_,_,_,_,_=>none
 | k + 1,x0,x1,x4,x5,x6,x7,x26=>if x26 = true then (spec_Point.j2 k x0 x1 (wrap64 (x6 - 224)) 3 2048) else (if x6 ≥ 240 then (if x6 < 245 then (spec_Point.j2 k x0 x1 (wrap64 (x6 - 240)) 4 65536) else (spec_Point.j2 k x0 x1 x4 x5 x7)) else (spec_Point.j2 k x0 x1 x4 x5 x7))
end
def spec_Point.f (k:Nat) (a0:ByteArray) (a1:Int):Option (Int × Int):=if 0 ≤ a1 then (if a1 < (a0.size:Int) then (if (wrap64 (bt a0 a1)) < 128 then (some (wrap64 (bt a0 a1),1)) else (if (wrap64 (bt a0 a1)) ≥ 194 then (spec_Point.j0 k a0 a1 0 0 (wrap64 (bt a0 a1)) 0 (decide ((wrap64 (bt a0 a1)) < 224))) else (spec_Point.j0 k a0 a1 0 0 (wrap64 (bt a0 a1)) 0 false))) else (none)) else (none)
set_option maxHeartbeats 8000000 in
set_option maxRecDepth 100000 in
theorem spec_Point.calls (k:Nat) (a0:ByteArray) (a1:Int) (r1:Int) (r2:Int) (w:World) (h:spec_Point.f k a0 a1 = some (r1,r2)) :
  Calls Tryz.prog 36 #[.string a0,.int .i64 a1] w fun e w'=>e = .returned (.tuple #[.int .i64 r1,.int .i64 r2]) ∧ Drawn0 w w':=by
 have H:(if 0 ≤ a1 then (if a1 < (a0.size:Int) then (if (wrap64 (bt a0 a1)) < 128 then (some (wrap64 (bt a0 a1),1)) else (if (wrap64 (bt a0 a1)) ≥ 194 then (spec_Point.j0 k a0 a1 0 0 (wrap64 (bt a0 a1)) 0 (decide ((wrap64 (bt a0 a1)) < 224))) else (spec_Point.j0 k a0 a1 0 0 (wrap64 (bt a0 a1)) 0 false))) else (none)) else (none)) = some (r1,r2):=h
 clear h
 by_cases c3:0 ≤ a1
 ·rw [if_pos c3] at H
  have c3b0:decide (0 ≤ a1) = true:=decide_eq_true c3
  clear c3
  by_cases c4:a1 < (a0.size:Int)
  ·rw [if_pos c4] at H
   have c4b0:decide (a1 < (a0.size:Int)) = true:=decide_eq_true c4
   clear c4
   have HC6:=Aside0.mk H
   clear H
   have p5:0 ≤ (a1:Int):=of_decide_eq_true (by first | (with_reducible assumption) | assumption)
   have q5:a1 < (a0.size:Int):=of_decide_eq_true (by first | (with_reducible assumption) | assumption)
   have hx5:=bt_at a0 a1
   replace p5:=eq_true p5
   replace q5:=eq_true q5
   go_enter Tryz.func36,Tryz.ntmps36
   go_upto_block 0 with (fail)
   go_cut [4,5,7] (fun v4 v5 v7 wc=>∃ (kq:Nat) (x4_5:Int) (x5_5:Int) (x7_5:Int),v4 = .int .i64 x4_5 ∧ v5 = .int .i64 x5_5 ∧ v7 = .int .i64 x7_5 ∧ Aside0 (spec_Point.j2 kq a0 a1 x4_5 x5_5 x7_5 = some (r1,r2)) ∧ Aside0 (kq ≤ k) ∧ Drawn0 w wc)
   case first=>
    have H:=HC6.out
    clear HC6
    by_cases c7:(wrap64 (bt a0 a1)) < 128
    ·rw [if_pos c7] at H
     have c7b0:decide ((wrap64 (bt a0 a1)) < 128) = true:=decide_eq_true c7
     clear c7
     (first | rw [c7b0] | (simp only [i64_w,i32_w];rw [c7b0]) | skip)
     simp only [Option.some.injEq,Prod.mk.injEq] at H
     obtain ⟨rfl,rfl⟩:=H
     go_wp2
     go_ret2
     exact ⟨by first | rfl | (simp;done) | (simp [*];done),by repeat (first | exact Drawn0.refl _ | apply Drawn0.step)⟩
    ·rw [if_neg c7] at H
     have c7b0:decide ((wrap64 (bt a0 a1)) < 128) = false:=decide_eq_false c7
     clear c7
     (first | rw [c7b0] | (simp only [i64_w,i32_w];rw [c7b0]) | skip)
     have HC8:=Aside0.mk H
     clear H
     go_upto_region 5 with (fail)
     go_cut [17] (fun v17 wc=>∃ (kq:Nat) (x17_7:Bool),v17 = .bool x17_7 ∧ Aside0 (spec_Point.j0 kq a0 a1 0 0 (wrap64 (bt a0 a1)) 0 x17_7 = some (r1,r2)) ∧ Aside0 (kq ≤ k) ∧ Drawn0 w wc)
     case first=>
      have H:=HC8.out
      clear HC8
      by_cases c9:(wrap64 (bt a0 a1)) ≥ 194
      ·rw [if_pos c9] at H
       have c9b0:decide (194 ≤ (wrap64 (bt a0 a1))) = true:=decide_eq_true c9
       clear c9
       (first | rw [c9b0] | (simp only [i64_w,i32_w];rw [c9b0]) | skip)
       have H':=Aside0.mk H
       clear H
       go_wp2
       go_meet
       case rel=>exact ⟨_,(decide ((wrap64 (bt a0 a1)) < 224)),(by first | rfl | (simp;done) | (simp [*];done)),H',⟨by first | omega | exact Nat.le_refl _⟩,by repeat (first | exact Drawn0.refl _ | apply Drawn0.step)⟩
      ·rw [if_neg c9] at H
       have c9b0:decide (194 ≤ (wrap64 (bt a0 a1))) = false:=decide_eq_false c9
       clear c9
       (first | rw [c9b0] | (simp only [i64_w,i32_w];rw [c9b0]) | skip)
       have H':=Aside0.mk H
       clear H
       go_wp2
       go_meet
       case rel=>exact ⟨_,(false),(by first | rfl | (simp;done) | (simp [*];done)),H',⟨by first | omega | exact Nat.le_refl _⟩,by repeat (first | exact Drawn0.refl _ | apply Drawn0.step)⟩
     case rest=>
      clear HC8
      try clear p2
      try clear c3
      try clear c3b0
      try clear c4
      try clear c4b0
      try clear p5
      try clear q5
      try clear hx5
      try clear p6
      try clear c7
      try clear c7b0
      try clear c9
      try clear c9b0
      try clear p5
      try clear q5
      obtain ⟨kq,x17_7,rfl,HA,HJ7,⟨mc7,rfl⟩⟩:=hcut
      cases kq with
      | zero=>exact absurd HA.out (by simp [spec_Point.j0])
      | succ kj7=>
       have H:=HA.out
       clear HA
       simp only [spec_Point.j0] at H
       by_cases c10:x17_7 = true
       ·subst c10
        have H1:(spec_Point.j2 kj7 a0 a1 (wrap64 ((wrap64 (bt a0 a1)) - 192)) 2 128) = some (r1,r2):=by rw [if_pos rfl] at H;exact H
        clear H
        have H:=H1
        clear H1
        have H':=Aside0.mk H
        clear H
        go_wp2
        go_meet
        case rel=>exact ⟨_,(wrap64 ((wrap64 (bt a0 a1)) - 192)),(2),(128),(by first | rfl | (simp;done) | (simp [*];done)),(by first | rfl | (simp;done) | (simp [*];done)),(by first | rfl | (simp;done) | (simp [*];done)),H',⟨by have:=HJ7.out;first | omega | exact Nat.le_refl _⟩,by repeat (first | exact Drawn0.refl _ | apply Drawn0.step)⟩
       ·replace c10:=Bool.eq_false_iff.mpr c10
        subst c10
        have H1:(if (wrap64 (bt a0 a1)) ≥ 224 then (spec_Point.j1 kj7 a0 a1 0 0 (wrap64 (bt a0 a1)) 0 (decide ((wrap64 (bt a0 a1)) < 240))) else (spec_Point.j1 kj7 a0 a1 0 0 (wrap64 (bt a0 a1)) 0 false)) = some (r1,r2):=by rw [if_neg (show ¬ (false = true) by decide)] at H;exact H
        clear H
        have H:=H1
        clear H1
        have HC11:=Aside0.mk H
        clear H
        go_upto_region 7 with (fail)
        go_cut [26] (fun v26 wc=>∃ (kq:Nat) (x26_10:Bool),v26 = .bool x26_10 ∧ Aside0 (spec_Point.j1 kq a0 a1 0 0 (wrap64 (bt a0 a1)) 0 x26_10 = some (r1,r2)) ∧ Aside0 (kq ≤ kj7) ∧ Drawn0 w wc)
        case first=>
         have H:=HC11.out
         clear HC11
         by_cases c12:(wrap64 (bt a0 a1)) ≥ 224
         ·rw [if_pos c12] at H
          have c12b0:decide (224 ≤ (wrap64 (bt a0 a1))) = true:=decide_eq_true c12
          clear c12
          (first | rw [c12b0] | (simp only [i64_w,i32_w];rw [c12b0]) | skip)
          have H':=Aside0.mk H
          clear H
          go_wp2
          go_meet
          case rel=>exact ⟨_,(decide ((wrap64 (bt a0 a1)) < 240)),(by first | rfl | (simp;done) | (simp [*];done)),H',⟨by have:=HJ7.out;first | omega | exact Nat.le_refl _⟩,by repeat (first | exact Drawn0.refl _ | apply Drawn0.step)⟩
         ·rw [if_neg c12] at H
          have c12b0:decide (224 ≤ (wrap64 (bt a0 a1))) = false:=decide_eq_false c12
          clear c12
          (first | rw [c12b0] | (simp only [i64_w,i32_w];rw [c12b0]) | skip)
          have H':=Aside0.mk H
          clear H
          go_wp2
          go_meet
          case rel=>exact ⟨_,(false),(by first | rfl | (simp;done) | (simp [*];done)),H',⟨by have:=HJ7.out;first | omega | exact Nat.le_refl _⟩,by repeat (first | exact Drawn0.refl _ | apply Drawn0.step)⟩
        case rest=>
         clear HC11
         try clear c1
         try clear p2
         try clear c3
         try clear c3b0
         try clear c4
         try clear c4b0
         try clear p5
         try clear q5
         try clear hx5
         try clear p6
         try clear c7
         try clear c7b0
         try clear c9
         try clear c9b0
         try clear c10
         try clear c12
         try clear c12b0
         try clear p2
         try clear p5
         try clear p6
         try clear q5
         obtain ⟨kq,x26_10,rfl,HA,HJ10,⟨mc10,rfl⟩⟩:=hcut
         cases kq with
         | zero=>exact absurd HA.out (by simp [spec_Point.j1])
         | succ kj10=>
          have H:=HA.out
          clear HA
          simp only [spec_Point.j1] at H
          by_cases c13:x26_10 = true
          ·subst c13
           have H1:(spec_Point.j2 kj10 a0 a1 (wrap64 ((wrap64 (bt a0 a1)) - 224)) 3 2048) = some (r1,r2):=by rw [if_pos rfl] at H;exact H
           clear H
           have H:=H1
           clear H1
           have H':=Aside0.mk H
           clear H
           go_wp2
           go_meet
           case rel=>exact ⟨_,(wrap64 ((wrap64 (bt a0 a1)) - 224)),(3),(2048),(by first | rfl | (simp;done) | (simp [*];done)),(by first | rfl | (simp;done) | (simp [*];done)),(by first | rfl | (simp;done) | (simp [*];done)),H',⟨by have:=HJ7.out;have:=HJ10.out;first | omega | exact Nat.le_refl _⟩,by repeat (first | exact Drawn0.refl _ | apply Drawn0.step)⟩
          ·replace c13:=Bool.eq_false_iff.mpr c13
           subst c13
           have H1:(if (wrap64 (bt a0 a1)) ≥ 240 then (if (wrap64 (bt a0 a1)) < 245 then (spec_Point.j2 kj10 a0 a1 (wrap64 ((wrap64 (bt a0 a1)) - 240)) 4 65536) else (spec_Point.j2 kj10 a0 a1 0 0 0)) else (spec_Point.j2 kj10 a0 a1 0 0 0)) = some (r1,r2):=by rw [if_neg (show ¬ (false = true) by decide)] at H;exact H
           clear H
           have H:=H1
           clear H1
           by_cases c14:(wrap64 (bt a0 a1)) ≥ 240
           ·rw [if_pos c14] at H
            have c14b0:decide (240 ≤ (wrap64 (bt a0 a1))) = true:=decide_eq_true c14
            clear c14
            by_cases c15:(wrap64 (bt a0 a1)) < 245
            ·rw [if_pos c15] at H
             have c15b0:decide ((wrap64 (bt a0 a1)) < 245) = true:=decide_eq_true c15
             clear c15
             have H':=Aside0.mk H
             clear H
             go_wp2
             go_meet
             case rel=>exact ⟨_,(wrap64 ((wrap64 (bt a0 a1)) - 240)),(4),(65536),(by first | rfl | (simp;done) | (simp [*];done)),(by first | rfl | (simp;done) | (simp [*];done)),(by first | rfl | (simp;done) | (simp [*];done)),H',⟨by have:=HJ7.out;have:=HJ10.out;first | omega | exact Nat.le_refl _⟩,by repeat (first | exact Drawn0.refl _ | apply Drawn0.step)⟩
            ·rw [if_neg c15] at H
             have c15b0:decide ((wrap64 (bt a0 a1)) < 245) = false:=decide_eq_false c15
             clear c15
             have H':=Aside0.mk H
             clear H
             go_wp2
             go_meet
             case rel=>exact ⟨_,(0),(0),(0),(by first | rfl | (simp;done) | (simp [*];done)),(by first | rfl | (simp;done) | (simp [*];done)),(by first | rfl | (simp;done) | (simp [*];done)),H',⟨by have:=HJ7.out;have:=HJ10.out;first | omega | exact Nat.le_refl _⟩,by repeat (first | exact Drawn0.refl _ | apply Drawn0.step)⟩
           ·rw [if_neg c14] at H
            have c14b0:decide (240 ≤ (wrap64 (bt a0 a1))) = false:=decide_eq_false c14
            clear c14
            have H':=Aside0.mk H
            clear H
            go_wp2
            go_meet
            case rel=>exact ⟨_,(0),(0),(0),(by first | rfl | (simp;done) | (simp [*];done)),(by first | rfl | (simp;done) | (simp [*];done)),(by first | rfl | (simp;done) | (simp [*];done)),H',⟨by have:=HJ7.out;have:=HJ10.out;first | omega | exact Nat.le_refl _⟩,by repeat (first | exact Drawn0.refl _ | apply Drawn0.step)⟩
   case rest=>
    clear HC6
    try clear c1
    try clear p2
    try clear c3
    try clear c3b0
    try clear c4
    try clear c4b0
    try clear p5
    try clear q5
    try clear hx5
    try clear p6
    try clear c7
    try clear c7b0
    try clear c9
    try clear c9b0
    try clear c10
    try clear c12
    try clear c12b0
    try clear c13
    try clear c14
    try clear c14b0
    try clear c15
    try clear c15b0
    try clear p2
    try clear p5
    try clear p6
    try clear q5
    obtain ⟨kq,x4_5,x5_5,x7_5,rfl,rfl,rfl,HA,HJ5,⟨mc5,rfl⟩⟩:=hcut
    cases kq with
    | zero=>exact absurd HA.out (by simp [spec_Point.j2])
    | succ kj5=>
     have H:=HA.out
     clear HA
     simp only [spec_Point.j2] at H
     have HC16:=Aside0.mk H
     clear H
     go_upto_region 11 with (fail)
     go_cut [53] (fun v53 wc=>∃ (kq:Nat) (x53_15:Bool),v53 = .bool x53_15 ∧ Aside0 (spec_Point.j3 kq a0 a1 x4_5 x5_5 x7_5 x53_15 = some (r1,r2)) ∧ Aside0 (kq ≤ kj5) ∧ Drawn0 w wc)
     case first=>
      have H:=HC16.out
      clear HC16
      by_cases c17:x5_5 = 0
      ·rw [if_pos c17] at H
       have c17b0:(x5_5 == 0) = true:=beq_iff_eq.mpr c17
       have c17b1:(x5_5 != 0) = false:=bne_eq_false_iff_eq.mpr c17
       clear c17
       (first | rw [c17b0] | (simp only [i64_w,i32_w];rw [c17b0]) | skip)
       have H':=Aside0.mk H
       clear H
       go_wp2
       go_meet
       case rel=>exact ⟨_,(true),(by first | rfl | (simp;done) | (simp [*];done)),H',⟨by have:=HJ5.out;first | omega | exact Nat.le_refl _⟩,by repeat (first | exact Drawn0.refl _ | apply Drawn0.step)⟩
      ·rw [if_neg c17] at H
       have c17b0:(x5_5 == 0) = false:=beq_eq_false_iff_ne.mpr c17
       have c17b1:(x5_5 != 0) = true:=bne_iff_ne.mpr c17
       (first | rw [c17b0] | (simp only [i64_w,i32_w];rw [c17b0]) | skip)
       have H':=Aside0.mk H
       clear H
       go_wp2
       go_meet
       case rel=>exact ⟨_,(decide ((wrap64 (a1 + x5_5)) > (a0.size:Int))),(by first | rfl | (simp;done) | (simp [*];done)),H',⟨by have:=HJ5.out;first | omega | exact Nat.le_refl _⟩,by repeat (first | exact Drawn0.refl _ | apply Drawn0.step)⟩
     case rest=>
      clear HC16
      try clear c1
      try clear p2
      try clear c3
      try clear c3b0
      try clear c4
      try clear c4b0
      try clear c5
      try clear p5
      try clear q5
      try clear hx5
      try clear p6
      try clear c7
      try clear c7b0
      try clear c9
      try clear c9b0
      try clear c10
      try clear c12
      try clear c12b0
      try clear c13
      try clear c14
      try clear c14b0
      try clear c15
      try clear c15b0
      try clear c17
      try clear c17b0
      try clear c17b1
      try clear p2
      try clear p5
      try clear p6
      try clear q5
      obtain ⟨kq,x53_15,rfl,HA,HJ15,⟨mc15,rfl⟩⟩:=hcut
      cases kq with
      | zero=>exact absurd HA.out (by simp [spec_Point.j3])
      | succ kj15=>
       have H:=HA.out
       clear HA
       simp only [spec_Point.j3] at H
       by_cases c18:x53_15 = true
       ·subst c18
        have H1:(some (0,0)) = some (r1,r2):=by rw [if_pos rfl] at H;exact H
        clear H
        have H:=H1
        clear H1
        simp only [Option.some.injEq,Prod.mk.injEq] at H
        obtain ⟨rfl,rfl⟩:=H
        go_wp2
        go_ret2
        exact ⟨by first | rfl | (simp;done) | (simp [*];done),by repeat (first | exact Drawn0.refl _ | apply Drawn0.step)⟩
       ·replace c18:=Bool.eq_false_iff.mpr c18
        subst c18
        have H1:(spec_Point.l0 kj15 a0 a1 x4_5 x5_5 x7_5 (wrap64 (a1 + 1))) = some (r1,r2):=by rw [if_neg (show ¬ (false = true) by decide)] at H;exact H
        clear H
        have H:=H1
        clear H1
        have H':=Aside0.mk H
        clear H
        go_wp2
        go_loopg [4,5,8] kj15 (fun kq v4 v5 v8 w'=>∃ (x4_3:Int) (x5_3:Int) (x8_3:Int),v4 = .int .i64 x4_3 ∧ v5 = .int .i64 x5_3 ∧ v8 = .int .i64 x8_3 ∧ Aside0 (spec_Point.l0 kq a0 a1 x4_3 x5_3 x7_5 x8_3 = some (r1,r2)) ∧ Aside0 (kq ≤ kj15) ∧ Drawn0 w w')
        case atStart=>exact ⟨(x4_5),(x5_5),(wrap64 (a1 + 1)),(by first | rfl | (simp;done) | (simp [*];done)),(by first | rfl | (simp;done) | (simp [*];done)),(by first | rfl | (simp;done) | (simp [*];done)),H',⟨Nat.le_refl _⟩,by repeat (first | exact Drawn0.refl _ | apply Drawn0.step)⟩
        case round=>
         clear H'
         try clear c1
         try clear p2
         try clear c3
         try clear c3b0
         try clear c4
         try clear c4b0
         try clear c5
         try clear p5
         try clear q5
         try clear hx5
         try clear p6
         try clear c7
         try clear c7b0
         try clear c9
         try clear c9b0
         try clear c10
         try clear c12
         try clear c12b0
         try clear c13
         try clear c14
         try clear c14b0
         try clear c15
         try clear c15b0
         try clear c17
         try clear c17b0
         try clear c17b1
         try clear c18
         try clear p2
         try clear p5
         try clear p6
         try clear q5
         obtain ⟨x4_3,x5_3,x8_3,rfl,rfl,rfl,HA,HK3,⟨m3,rfl⟩⟩:=hrel
         cases gk with
         | zero=>exact absurd HA.out (by simp [spec_Point.l0])
         | succ k3=>
          have H:=HA.out
          clear HA
          simp only [spec_Point.l0] at H
          by_cases c19:x8_3 < (wrap64 (a1 + x5_3))
          ·rw [if_pos c19] at H
           have c19b0:decide (x8_3 < (wrap64 (a1 + x5_3))) = true:=decide_eq_true c19
           clear c19
           by_cases c20:0 ≤ x8_3
           ·rw [if_pos c20] at H
            have c20b0:decide (0 ≤ x8_3) = true:=decide_eq_true c20
            clear c20
            by_cases c21:x8_3 < (a0.size:Int)
            ·rw [if_pos c21] at H
             have c21b0:decide (x8_3 < (a0.size:Int)) = true:=decide_eq_true c21
             clear c21
             by_cases c23:(bt a0 x8_3) < 128
             ·rw [if_pos c23] at H
              have c23b0:decide ((bt a0 x8_3) < 128) = true:=decide_eq_true c23
              clear c23
              simp only [Option.some.injEq,Prod.mk.injEq] at H
              obtain ⟨rfl,rfl⟩:=H
              have p22:0 ≤ (x8_3:Int):=of_decide_eq_true (by first | (with_reducible assumption) | assumption)
              have q22:x8_3 < (a0.size:Int):=of_decide_eq_true (by first | (with_reducible assumption) | assumption)
              have hx22:=bt_at a0 x8_3
              replace p22:=eq_true p22
              replace q22:=eq_true q22
              go_wp2
              go_ret2
              exact ⟨by first | rfl | (simp;done) | (simp [*];done),by repeat (first | exact Drawn0.refl _ | apply Drawn0.step)⟩
             ·rw [if_neg c23] at H
              have c23b0:decide ((bt a0 x8_3) < 128) = false:=decide_eq_false c23
              clear c23
              by_cases c25:(bt a0 x8_3) > 191
              ·rw [if_pos c25] at H
               have c25b0:decide (191 < (bt a0 x8_3)) = true:=decide_eq_true c25
               clear c25
               simp only [Option.some.injEq,Prod.mk.injEq] at H
               obtain ⟨rfl,rfl⟩:=H
               have p22:0 ≤ (x8_3:Int):=of_decide_eq_true (by first | (with_reducible assumption) | assumption)
               have q22:x8_3 < (a0.size:Int):=of_decide_eq_true (by first | (with_reducible assumption) | assumption)
               have hx22:=bt_at a0 x8_3
               replace p22:=eq_true p22
               replace q22:=eq_true q22
               have p24:0 ≤ (x8_3:Int):=of_decide_eq_true (by first | (with_reducible assumption) | assumption)
               have q24:x8_3 < (a0.size:Int):=of_decide_eq_true (by first | (with_reducible assumption) | assumption)
               have hx24:=bt_at a0 x8_3
               replace p24:=eq_true p24
               replace q24:=eq_true q24
               go_wp2
               go_ret2
               exact ⟨by first | rfl | (simp;done) | (simp [*];done),by repeat (first | exact Drawn0.refl _ | apply Drawn0.step)⟩
              ·rw [if_neg c25] at H
               have c25b0:decide (191 < (bt a0 x8_3)) = false:=decide_eq_false c25
               clear c25
               have H':=Aside0.mk H
               clear H
               have p22:0 ≤ (x8_3:Int):=of_decide_eq_true (by first | (with_reducible assumption) | assumption)
               have q22:x8_3 < (a0.size:Int):=of_decide_eq_true (by first | (with_reducible assumption) | assumption)
               have hx22:=bt_at a0 x8_3
               replace p22:=eq_true p22
               replace q22:=eq_true q22
               have p24:0 ≤ (x8_3:Int):=of_decide_eq_true (by first | (with_reducible assumption) | assumption)
               have q24:x8_3 < (a0.size:Int):=of_decide_eq_true (by first | (with_reducible assumption) | assumption)
               have hx24:=bt_at a0 x8_3
               replace p24:=eq_true p24
               replace q24:=eq_true q24
               have p26:0 ≤ (x8_3:Int):=of_decide_eq_true (by first | (with_reducible assumption) | assumption)
               have q26:x8_3 < (a0.size:Int):=of_decide_eq_true (by first | (with_reducible assumption) | assumption)
               have hx26:=bt_at a0 x8_3
               replace p26:=eq_true p26
               replace q26:=eq_true q26
               go_wp2
               go_roundg k3
               case measure=>have:=HJ5.out;have:=HJ15.out;have:=HK3.out;omega
               case rel=>exact ⟨(wrap64 ((wrap64 ((wrap64 (x4_3 * 64)) + (wrap64 (bt a0 x8_3)))) - 128)),(x5_3),(wrap64 (x8_3 + 1)),(by first | rfl | (simp;done) | (simp [*];done)),(by first | rfl | (simp;done) | (simp [*];done)),(by first | rfl | (simp;done) | (simp [*];done)),H',⟨by have:=HJ5.out;have:=HJ15.out;have:=HK3.out;omega⟩,by repeat (first | exact Drawn0.refl _ | apply Drawn0.step)⟩
            ·rw [if_neg c21] at H
             exact absurd H (by simp)
           ·rw [if_neg c20] at H
            exact absurd H (by simp)
          ·rw [if_neg c19] at H
           have c19b0:decide (x8_3 < (wrap64 (a1 + x5_3))) = false:=decide_eq_false c19
           clear c19
           by_cases c27:x4_3 < x7_5
           ·rw [if_pos c27] at H
            have c27b0:decide (x4_3 < x7_5) = true:=decide_eq_true c27
            clear c27
            simp only [Option.some.injEq,Prod.mk.injEq] at H
            obtain ⟨rfl,rfl⟩:=H
            go_wp2
            go_ret2
            exact ⟨by first | rfl | (simp;done) | (simp [*];done),by repeat (first | exact Drawn0.refl _ | apply Drawn0.step)⟩
           ·rw [if_neg c27] at H
            have c27b0:decide (x4_3 < x7_5) = false:=decide_eq_false c27
            clear c27
            by_cases c28:x4_3 > 1114111
            ·rw [if_pos c28] at H
             have c28b0:decide (1114111 < x4_3) = true:=decide_eq_true c28
             clear c28
             simp only [Option.some.injEq,Prod.mk.injEq] at H
             obtain ⟨rfl,rfl⟩:=H
             go_wp2
             go_ret2
             exact ⟨by first | rfl | (simp;done) | (simp [*];done),by repeat (first | exact Drawn0.refl _ | apply Drawn0.step)⟩
            ·rw [if_neg c28] at H
             have c28b0:decide (1114111 < x4_3) = false:=decide_eq_false c28
             clear c28
             by_cases c29:x4_3 ≥ 55296
             ·rw [if_pos c29] at H
              have c29b0:decide (55296 ≤ x4_3) = true:=decide_eq_true c29
              clear c29
              by_cases c30:x4_3 < 57344
              ·rw [if_pos c30] at H
               have c30b0:decide (x4_3 < 57344) = true:=decide_eq_true c30
               clear c30
               simp only [Option.some.injEq,Prod.mk.injEq] at H
               obtain ⟨rfl,rfl⟩:=H
               go_wp2
               go_ret2
               exact ⟨by first | rfl | (simp;done) | (simp [*];done),by repeat (first | exact Drawn0.refl _ | apply Drawn0.step)⟩
              ·rw [if_neg c30] at H
               have c30b0:decide (x4_3 < 57344) = false:=decide_eq_false c30
               clear c30
               simp only [Option.some.injEq,Prod.mk.injEq] at H
               obtain ⟨rfl,rfl⟩:=H
               go_wp2
               go_ret2
               exact ⟨by first | rfl | (simp;done) | (simp [*];done),by repeat (first | exact Drawn0.refl _ | apply Drawn0.step)⟩
             ·rw [if_neg c29] at H
              have c29b0:decide (55296 ≤ x4_3) = false:=decide_eq_false c29
              clear c29
              simp only [Option.some.injEq,Prod.mk.injEq] at H
              obtain ⟨rfl,rfl⟩:=H
              go_wp2
              go_ret2
              exact ⟨by first | rfl | (simp;done) | (simp [*];done),by repeat (first | exact Drawn0.refl _ | apply Drawn0.step)⟩
  ·rw [if_neg c4] at H
   exact absurd H (by simp)
 ·rw [if_neg c3] at H
  exact absurd H (by simp)
end Go.Proofs.YtbobbognjmofdaaGreatDoor.Ptext
end
section
namespace Go.Proofs.YtbobbognjmofdaaGreatDoor.Lex
open Go.RowKit Go.Proofs.YtbobbognjmofdaaGreatDoorW.PrintWords Go.Proofs.YtbobbognjmofdaaGreatDoorW.PrintLast Go.Proofs.YtbobbognjmofdaaGreatDoorW.PrintMore
open Go.Proofs.YtbobbognjmofdaaGreatDoor.Ptext
set_option linter.unusedVariables false
set_option linter.unusedSimpArgs false
theorem info24:(Tryz.prog.info? 24).map (fun i=>(i.zero,i.size,i.bytes)) = some (some (.agg #[.int .i64 0,.string ⟨#[]⟩,.int .i64 0,.int .i64 0]),4,40):=by kernel_rfl
theorem k24_E:∀ q,q ∈ 24 :: k24.E → q ≠ 67:=by
 simp [k24,Kd.iso,Kd.pair,Kd.int,Kd.string,Kd.scalar]
structure LS where
 s:ByteArray
 at_:Int
 out:List S24
 bad:Bool
 unsure:Bool
def Lx (W:World) (base g:Nat) (x:LS):Prop:=∃ v,W.heap[g]? = some (.cells #[.string x.s,.int .i64 x.at_,v,.bool x.bad,.bool x.unsure] 67 (0,0)) ∧ base ≤ g ∧ Kd.R k24 24 W base (fun _=>True) v x.out
theorem Lx.cells {W:World} {base g:Nat} {x:LS} (h:Lx W base g x):∃ v,
  W.cell? ⟨g,0,none⟩ = some (.string x.s) ∧ W.cell? ⟨g,1,none⟩ = some (.int .i64 x.at_) ∧ W.cell? ⟨g,2,none⟩ = some v ∧ W.cell? ⟨g,3,none⟩ = some (.bool x.bad) ∧ W.cell? ⟨g,4,none⟩ = some (.bool x.unsure) ∧ ∀ j,W.frozen? ⟨g,j,none⟩ = false:=by
 obtain ⟨v,h,-,-⟩:=h
 refine ⟨v,?_,?_,?_,?_,?_,fun j=>?_⟩ <;> simp [World.cell?,World.frozen?,h]
theorem Lx.lt {W:World} {base g:Nat} {x:LS} (h:Lx W base g x):g < W.heap.size:=by
 obtain ⟨v,h,-,-⟩:=h
 exact (Array.getElem?_eq_some_iff.1 h).1
theorem Lx.below {W W1:World} {base g:Nat} {x:LS} (h:Lx W base g x) (hb:Below W.heap.size W W1):Lx W1 base g x:=by
 have hlt:=h.lt
 obtain ⟨v,h,hg,hR⟩:=h
 exact ⟨v,(hb.block g hlt).trans h,hg,Kd.R_below hR hb⟩
theorem Lx.drewN {W:World} {base g:Nat} {x:LS} (h:Lx W base g x) (m:Nat):Lx (W.drewN m) base g x:=h.below (pw_below_drewN (Below.refl _ _) m)
theorem Lx.drew {W:World} {base g:Nat} {x:LS} (h:Lx W base g x):Lx W.drew base g x:=h.drewN 1
theorem Lx.set1 {W:World} {base g:Nat} {x:LS} (h:Lx W base g x) (i:Int):Lx (W.setCell ⟨g,1,none⟩ (.int .i64 i)) base g { x with at_:=i }:=by
 obtain ⟨v,h,hg,hR⟩:=h
 exact ⟨v,(blk_set h 1 _).trans rfl,hg,Kd.R_set hR h k24_E _ _⟩
theorem Lx.set3 {W:World} {base g:Nat} {x:LS} (h:Lx W base g x) (b:Bool):Lx (W.setCell ⟨g,3,none⟩ (.bool b)) base g { x with bad:=b }:=by
 obtain ⟨v,h,hg,hR⟩:=h
 exact ⟨v,(blk_set h 3 _).trans rfl,hg,Kd.R_set hR h k24_E _ _⟩
theorem Lx.set4 {W:World} {base g:Nat} {x:LS} (h:Lx W base g x) (b:Bool):Lx (W.setCell ⟨g,4,none⟩ (.bool b)) base g { x with unsure:=b }:=by
 obtain ⟨v,h,hg,hR⟩:=h
 exact ⟨v,(blk_set h 4 _).trans rfl,hg,Kd.R_set hR h k24_E _ _⟩
theorem Lx.bset {W W1:World} {base g:Nat} {x:LS} (h:Lx W1 base g x) (hb:Below base W W1) (j:Nat) (u:Value):Below base W (W1.setCell ⟨g,j,none⟩ u):=by
 obtain ⟨v,h,hg,hR⟩:=h
 exact hb.setCell hg u
set_option maxHeartbeats 400000 in
theorem add_any (base g:Nat) (x:LS) (kind tt:Int) (val:ByteArray) (w:World) (h:Lx w base g x) (hbase:base ≤ w.heap.size) (hl:(x.out.length + 1) * 40 ≤ 140737488355328) :
  Calls Tryz.prog 53 #[.pointer (some ⟨g,0,none⟩),.int .i64 kind,.int .i64 tt,.string val] w fun e w'=>e = .returned (.tuple #[]) ∧ Lx w' base g { x with at_:=tt,out:=x.out ++ [⟨kind,val,x.at_,tt⟩] } ∧ Below base w w':=by
 have hlt:=h.lt
 obtain ⟨v,hh,hg,hR⟩:=h
 have c0:w.cell? ⟨g,0,none⟩ = some (.string x.s):=by simp [World.cell?,hh]
 have c1:w.cell? ⟨g,1,none⟩ = some (.int .i64 x.at_):=by simp [World.cell?,hh]
 have c2:w.cell? ⟨g,2,none⟩ = some v:=by simp [World.cell?,hh]
 have fz:∀ j,w.frozen? ⟨g,j,none⟩ = false:=fun j=>by simp [World.frozen?,hh]
 have HH:=Aside0.mk hh
 have HR:=Aside0.mk hR
 have hne:some g ≠ v.ownBlock:=by
  intro he
  obtain ⟨cs,hcs⟩:=own_typed hR.2.choose_spec.1 g he.symm
  rw [hh] at hcs
  injection hcs with hcs
  injection hcs with _ h2
  cases h2
 have HNE:=Aside0.mk hne
 clear hh hR hne
 go_enter Tryz.func53,Tryz.ntmps53
 go_wp2_with fail
 go_region_law (refine Kd.R_append_step k24 (w0:=w) base rfl (.tmp 12) (.tmp 21) 33 24 _ 40 rfl Tryz.underlying33 info24 rfl (by decide) (by decide) v x.out ⟨kind,val,x.at_,tt⟩ [.int .i64 kind,.string val,.int .i64 x.at_,.int .i64 tt] (fun _=>True) (fun _=>False) (by simp [Act.eval,Act.put]) (by simp [Act.eval,Act.put]) (k24_mkM _ _ _ _) (fun _ hk=>hk.elim) (fun _ _=>trivial) (Kd.R_drewN HR.out 1) (pw_below_drewN (Below.refl _ _) 1) hbase hl ?_;intro v1 w1 hR1 hB1 hgrow hat;obtain ⟨A1,cp1,rfl,hc1,hC1⟩:=Kd.R_reads hR1;have hw1:w1.heap[g]? = some (.cells #[.string x.s,.int .i64 x.at_,v,.bool x.bad,.bool x.unsure] 67 (0,0)):=(hgrow.block g hlt HNE.out).trans HH.out;have d2:=blk_cell hw1 2;have f2:=blk_frozen hw1 2;have d1:=blk_cell hw1 1;have f1:=blk_frozen hw1 1)
 all_goals
  have hw2:(w1.setCell ⟨g,2,none⟩ (.slice A1 (x.out.length + 1) cp1)).heap[g]? = some (.cells #[.string x.s,.int .i64 x.at_,.slice A1 (x.out.length + 1) cp1,.bool x.bad,.bool x.unsure] 67 (0,0)):=(blk_set hw1 2 _).trans rfl
  have e1:=(blk_cell hw2 1).trans rfl
  have g1:=blk_frozen hw2 1
  have hR2:=Kd.R_set hR1 hw1 k24_E 2 (.slice A1 (x.out.length + 1) cp1)
  have hX:Lx (w1.setCell ⟨g,2,none⟩ (.slice A1 (x.out.length + 1) cp1)) base g { x with out:=x.out ++ [⟨kind,val,x.at_,tt⟩] }:=⟨_,hw2,hg,by simpa using hR2⟩
  have HX:=Aside0.mk hX
  have HB1:=Aside0.mk hB1
  clear hX hR2 hw2 hw1 d1 d2 f1 f2 hR1 hC1 hat hgrow hB1
  go_wp2_with fail
  go_end0
  exact ⟨rfl,HX.out.set1 _,(HB1.out.setCell hg _).setCell hg _⟩
def nx (s:ByteArray) (i:Int):Int:=if i < (s.size:Int) then bt s i else 0
set_option maxHeartbeats 400000 in
theorem next_any (base g:Nat) (x:LS) (i:Int) (w:World) (h:Lx w base g x) (hi:0 ≤ i) :
  Calls Tryz.prog 62 #[.pointer (some ⟨g,0,none⟩),.int .i64 i] w fun e w'=>e = .returned (.int .u8 (nx x.s i)) ∧ ∃ m,w.drewN m = w':=by
 obtain ⟨v,c0,c1,c2,c3,c4,fz⟩:=h.cells
 clear h
 by_cases hlt:i < (x.s.size:Int)
 ·have hx:=bt_at x.s i
  have hnx:nx x.s i = bt x.s i:=if_pos hlt
  have HN:=Aside0.mk hnx
  clear hnx
  go_enter Tryz.func62,Tryz.ntmps62
  go_wp2_with fail
  all_goals
   go_ret
   rw [HN.out]
   exact ⟨rfl,0,rfl⟩
 ·have hnx:nx x.s i = 0:=if_neg hlt
  have HN:=Aside0.mk hnx
  clear hnx
  go_enter Tryz.func62,Tryz.ntmps62
  go_wp2_with fail
  all_goals
   go_ret
   rw [HN.out]
   exact ⟨rfl,0,rfl⟩
set_option maxHeartbeats 400000 in
theorem fail_any (base g:Nat) (x:LS) (w:World) (h:Lx w base g x) :
  Calls Tryz.prog 54 #[.pointer (some ⟨g,0,none⟩)] w fun e w'=>e = .returned (.tuple #[]) ∧ Lx w' base g { x with bad:=true } ∧ Below base w w':=by
 have HX:=Aside0.mk h
 obtain ⟨v,c0,c1,c2,c3,c4,fz⟩:=h.cells
 clear h
 go_enter Tryz.func54,Tryz.ntmps54
 go_wp2_with fail
 go_end0
 exact ⟨rfl,HX.out.set3 _,HX.out.bset (Below.refl _ _) 3 _⟩
set_option maxHeartbeats 400000 in
theorem enc_any (c:Int) (w:World) (hc0:0 ≤ c) (hc1:c ≤ 1114111) :
  Calls Tryz.prog 94 #[.int .i64 c] w fun e w'=>e = .returned (.string (Utf8.encode c)) ∧ Below w.heap.size w w':=by
 have hw:IntKind.i32.wrap c = c:=by rw [i32_w];unfold wrap32;omega
 have kr:=run_convert_runes (P:=Tryz.prog) (w.alloc (.cells #[.int .i32 (IntKind.i32.wrap c)] 21)) 232 9 21 ⟨w.heap.size,0,none⟩ 1 1 [IntKind.i32.wrap c] (by simp) Tryz.underlying232 Tryz.underlying21 Tryz.underlying9 (by intro j hj;simp at hj;subst hj;rw [show (⟨w.heap.size,0,none⟩:Addr).add 0 = ⟨w.heap.size,0,none⟩ from rfl,World.cell?_alloc_new];rfl)
 have hre:runesBytes ([IntKind.i32.wrap c].take 1) = Utf8.encode c:=by
  rw [hw];simp [runesBytes]
 rw [hre] at kr
 clear hre
 rw [hw] at kr
 go_enter Tryz.func94,Tryz.ntmps94
 go_wp2_with fail
 go_ret
 exact ⟨rfl,below_alloc (Below.refl _ _) _⟩
end Go.Proofs.YtbobbognjmofdaaGreatDoor.Lex
end
end
section
set_option linter.unusedVariables false
set_option linter.unusedSimpArgs false
namespace Go.Proofs.YtbobbognjmofdaaGreatDoorW.PrintWords
open Go.RowKit
section
theorem ReadsRow.inner_ {α:Type} {R:α → List Value → Prop} {size:Nat} {w:World} {ad:Addr} {n:Nat} {ps:List α} (h:ReadsRow R size w (some ad) n ps) :
  ∃ inner,Reps R size ps inner ∧ ∀ j u,inner[j]? = some u → w.cell? (ad.add j) = some u:=by
 have key:∀ m,m ≤ ps.length → ∃ inner,Reps R size (ps.take m) inner ∧ ∀ j u,inner[j]? = some u → w.cell? (ad.add j) = some u:=by
  intro m
  induction m with
  | zero=>exact fun _=>⟨[],Reps.none _ _,fun j u hu=>by simp at hu⟩
  | succ m ih=>
   intro hm
   obtain ⟨inner,hr,hc⟩:=ih (by omega)
   obtain ⟨ad',he,hcell⟩:=h.2.2 (by have:=h.1;omega)
   injection he with he
   subst he
   obtain ⟨c,hcl,hp,hcc⟩:=hcell m _ (List.getElem?_eq_getElem (show m < ps.length by omega))
   refine ⟨inner ++ c,?_,fun j u hu=>?_⟩
   ·rw [List.take_succ_eq_append_getElem (show m < ps.length by omega)]
    exact hr.snoc hp hcl
   ·have hil:inner.length = m * size:=by rw [hr.1,List.length_take,Nat.min_eq_left (by omega)]
    rcases Nat.lt_or_ge j inner.length with hj | hj
    ·rw [List.getElem?_append_left hj] at hu
     exact hc j u hu
    ·rw [List.getElem?_append_right hj] at hu
     have:=hcc (j - inner.length) u hu
     rwa [hil,Nat.add_sub_cancel' (by omega)] at this
 obtain ⟨inner,hr,hc⟩:=key ps.length (Nat.le_refl _)
 rw [List.take_length] at hr
 exact ⟨inner,hr,hc⟩
end
namespace Kd
theorem reps_append {α:Type} {R:α → List Value → Prop} {size:Nat} {ps qs:List α} {cs ds:List Value} (h:Reps R size ps cs) (h':Reps R size qs ds):Reps R size (ps ++ qs) (cs ++ ds):=by
 refine ⟨by rw [List.length_append,List.length_append,h.1,h'.1,Nat.add_mul],fun j p hj=>?_⟩
 rcases Nat.lt_or_ge j ps.length with hlt | hge
 ·rw [List.getElem?_append_left hlt] at hj
  have hle:j * size + size ≤ cs.length:=by rw [h.1,← Nat.succ_mul];exact Nat.mul_le_mul_right _ hlt
  rw [List.drop_append_of_le_length (by omega),List.take_append_of_le_length (by rw [List.length_drop];omega)]
  exact h.2 j p hj
 ·rw [List.getElem?_append_right hge] at hj
  have h2:=h'.2 (j - ps.length) p hj
  have hle:ps.length * size ≤ j * size:=Nat.mul_le_mul_right _ hge
  rw [List.drop_append,List.drop_eq_nil_of_le (by rw [h.1];exact hle),List.nil_append,h.1,← Nat.sub_mul]
  exact h2
section
variable {P:Program} {ops:Array Oper} {rest:List Oper} {o:Oper} {a:Act} {Q:Exit → Act → World → Prop} {α:Type}
theorem R_append_rows (d:Kd α) {Rr:α → List Value → Prop} {w0 W:World} (base:Nat) (hgd:o.guard = none) (s x:Operand) (t e:TypeId) (z:Value) (bytes:Nat)
  (ho:o.op = .call { callee:=.builtin .append,args:=#[s,x],argTypes:=#[t,t] })
  (ht:P.underlying t = some (.slice e)) (hinfo:(P.info? e).map (fun i=>(i.zero,i.size,i.bytes)) = some (some z,d.sz,bytes)) (hz:z.cells.size = d.sz) (hs0:0 < d.sz) (hb0:0 < bytes)
  (v:Value) (xs ys:List α) (A:Option Addr) (m c:Nat) (ok okp:Nat → Prop) (hs:a.eval s = v) (hx:a.eval x = .slice A m c)
  (HO:d.R e W base ok v xs) (HR:ReadsRow Rr d.sz W A m ys) (hKM:∀ x cs,Rr x cs → d.M W base okp x cs) (hokp:∀ k,okp k → ok k ∧ some k ≠ v.ownBlock) (hfresh:∀ k,W.heap.size ≤ k → ok k)
  (HB:Below base w0 W) (hbase:base ≤ W.heap.size) (hl:(xs.length + m) * bytes ≤ 140737488355328)
  (h:∀ v1 w1,d.R e w1 base ok v1 (xs ++ ys) → Below base w0 w1 → W.grownBy w1 v.ownBlock → (v1.ownBlock = v.ownBlock ∨ ∃ b,v1.ownBlock = some b ∧ W.heap.size ≤ b) → wpList P ops Q rest (a.put o.dst v1) w1) :
  wpList P ops Q (o :: rest) a W:=by
 obtain ⟨i0,hi,hzz⟩:=Option.map_eq_some_iff.1 hinfo
 simp only [Prod.mk.injEq] at hzz
 obtain ⟨hz0,hz1,hz2⟩:=hzz
 have hm:ys.length = m:=HR.1
 have hlen:xs.length + m ≤ 140737488355328:=Nat.le_trans (Nat.le_mul_of_pos_right _ hb0) hl
 obtain ⟨hok,inner,hown,hr⟩:=HO
 have hrun:∃ v1 w1,(Builtin.append_ #[t,t] o.type #[v,.slice A m c]).run P W = .ok v1 w1 ∧ d.R e w1 base ok v1 (xs ++ ys) ∧ W.grownBy w1 v.ownBlock ∧ (v1.ownBlock = v.ownBlock ∨ ∃ b,v1.ownBlock = some b ∧ W.heap.size ≤ b):=by
  rcases A with _ | ad
  ·have h0:m = 0:=by
    rcases Nat.eq_zero_or_pos m with h0 | h0
    ·exact h0
    ·obtain ⟨ad,h,_⟩:=HR.2.2 h0
     cases h
   subst h0
   obtain rfl:ys = []:=List.eq_nil_of_length_eq_zero hm
   refine ⟨v,W,?_,by rw [List.append_nil];exact ⟨hok,inner,hown,hr⟩,World.grownBy.refl W _,.inl rfl⟩
   rcases hown.2 with ⟨rfl,hn⟩ | ⟨g,cap,cur,rfl,_,_,hnc,_⟩
   ·simp [Builtin.append_,run_underlying ht,sizeOf,typeInfo,hi,Builtin.lenOf,Builtin.firstCells]
   ·simp [Builtin.append_,run_underlying ht,sizeOf,typeInfo,hi,Builtin.lenOf,Builtin.firstCells,hnc,storeCells]
  ·obtain ⟨news,hnr,hnc⟩:=ReadsRow.inner_ HR
   have hnM:Reps (d.M W base okp) d.sz ys news:=hnr.imp_ (fun p c hp=>hKM p c hp)
   have hone:∀ u ∈ news,u.oneCell' = true:=by
    intro u hu
    obtain ⟨q,hq,rfl⟩:=List.mem_iff_getElem.1 hu
    have hql:q / d.sz < ys.length:=by
     rw [Nat.div_lt_iff_lt_mul hs0]
     rw [← hnM.1]
     exact hq
    have hc:=hnM.2 (q / d.sz) _ (List.getElem?_eq_getElem hql)
    refine d.K_one (d.K_of_M hc) _ ?_
    rw [List.mem_iff_getElem?]
    refine ⟨q % d.sz,?_⟩
    rw [List.getElem?_take,if_pos (Nat.mod_lt _ hs0),List.getElem?_drop,Nat.mul_comm,Nat.div_add_mod,List.getElem?_eq_getElem hq]
   obtain ⟨v1,w1,hrun,h2,hg,_,hat⟩:=run_append_own_at (P:=P) W base t o.type e i0 z d.sz bytes ht hi hz0 hz1 hz2 hz hs0 v xs.length inner hown ad m c news (by rw [hnM.1,hm]) hnc hone (by simp only [maxLen];omega) hl hbase
   have hat':v1.ownBlock = v.ownBlock ∨ ∃ b,v1.ownBlock = some b ∧ W.heap.size ≤ b:=by
    rcases hat with hat | hat
    ·exact .inl hat
    ·exact .inr ⟨_,hat,Nat.le_refl _⟩
   have hne:∀ k,some k ≠ v.ownBlock → k < W.heap.size → some k ≠ v1.ownBlock:=by
    intro k hk hlt
    rcases hat' with hat | ⟨b,hb,hle⟩
    ·rw [hat];exact hk
    ·rw [hb]
     intro he
     injection he with he
     omega
   have step:∀ {q:α} {c:List Value} {o:Nat → Prop},d.M W base o q c → (∀ k,o k → ok k ∧ some k ≠ v.ownBlock) → d.M w1 base (fun k=>ok k ∧ some k ≠ v1.ownBlock) q c:=by
    intro q c o hq ho
    have h1:=d.M_move (w1:=w1) (fun k hk=>hg.block k hk.2.2.1 (ho k hk.1).2) (d.M_bound hq)
    exact d.M_mono (fun k hk=>⟨(ho k hk.1).1,hne k (ho k hk.1).2 hk.2.2.1⟩) h1
   refine ⟨v1,w1,hrun,⟨fun k hk=>?_,inner ++ news,by rw [List.length_append,hm];exact h2,reps_append (hr.imp_ (fun _ _ hq=>step hq (fun _ hk=>hk))) (hnM.imp_ (fun _ _ hq=>step hq hokp))⟩,hg,hat'⟩
   rcases hat' with hat | ⟨b,hb,hle⟩
   ·exact hok k (hat ▸ hk)
   ·rw [hb] at hk
    injection hk with hk
    exact hfresh k (by omega)
 obtain ⟨v1,w1,hr1,h1,hg,hat⟩:=hrun
 refine wpList_plain hgd fun K hK=>?_
 unfold Oper.wp execOp
 simp only [ho,resolve,invoke,builtin,Sem.run_bind,Sem.run_pure,Result.andThen_ok,List.map_toArray,List.map_cons,List.map_nil,hs,hx,hr1]
 exact hK _ _ (h v1 w1 h1 (HB.grown hg hbase (own_base hown)) hg hat)
end
end Kd
end Go.Proofs.YtbobbognjmofdaaGreatDoorW.PrintWords
end
section
namespace Go.Proofs.YtbobbognjmofdaaGreatDoor.Lex
open Go.RowKit Go.Proofs.YtbobbognjmofdaaGreatDoorW.PrintWords Go.Proofs.YtbobbognjmofdaaGreatDoorW.PrintLast Go.Proofs.YtbobbognjmofdaaGreatDoorW.PrintMore
open Go.Proofs.YtbobbognjmofdaaGreatDoor.Ptext
set_option linter.unusedVariables false
set_option linter.unusedSimpArgs false
structure PS where
 at_:Int
 deep:Int
 wrong:Int
 bad:Bool
 unsure:Bool
theorem k24_E91:∀ q,q ∈ 24 :: k24.E → q ≠ 91:=by
 simp [k24,Kd.iso,Kd.pair,Kd.int,Kd.string,Kd.scalar]
def Px (W:World) (base g:Nat) (l:List S24) (x:PS):Prop:=∃ v,W.heap[g]? = some (.cells #[v,.int .i64 x.at_,.int .i64 x.deep,.int .i64 x.wrong,.bool x.bad,.bool x.unsure] 91 (0,0)) ∧ base ≤ g ∧ Kd.R k24 24 W base (fun _=>True) v l
theorem Px.cells {W:World} {base g:Nat} {l:List S24} {x:PS} (h:Px W base g l x):∃ A c,l.length ≤ c ∧ Kd.C k24 W A l.length l ∧
  W.cell? ⟨g,0,none⟩ = some (.slice A l.length c) ∧ W.cell? ⟨g,1,none⟩ = some (.int .i64 x.at_) ∧ W.cell? ⟨g,2,none⟩ = some (.int .i64 x.deep) ∧ W.cell? ⟨g,3,none⟩ = some (.int .i64 x.wrong) ∧ W.cell? ⟨g,4,none⟩ = some (.bool x.bad) ∧ W.cell? ⟨g,5,none⟩ = some (.bool x.unsure) ∧ ∀ j,W.frozen? ⟨g,j,none⟩ = false:=by
 obtain ⟨v,h,-,hR⟩:=h
 obtain ⟨A,c,rfl,hc,hC⟩:=Kd.R_reads hR
 refine ⟨A,c,hc,hC,?_,?_,?_,?_,?_,?_,fun j=>?_⟩ <;> simp [World.cell?,World.frozen?,h]
theorem Px.lt {W:World} {base g:Nat} {l:List S24} {x:PS} (h:Px W base g l x):g < W.heap.size:=by
 obtain ⟨v,h,-,-⟩:=h
 exact (Array.getElem?_eq_some_iff.1 h).1
theorem Px.below {W W1:World} {base g:Nat} {l:List S24} {x:PS} (h:Px W base g l x) (hb:Below W.heap.size W W1):Px W1 base g l x:=by
 have hlt:=h.lt
 obtain ⟨v,h,hg,hR⟩:=h
 exact ⟨v,(hb.block g hlt).trans h,hg,Kd.R_below hR hb⟩
theorem Px.drewN {W:World} {base g:Nat} {l:List S24} {x:PS} (h:Px W base g l x) (m:Nat):Px (W.drewN m) base g l x:=h.below (pw_below_drewN (Below.refl _ _) m)
theorem Px.set1 {W:World} {base g:Nat} {l:List S24} {x:PS} (h:Px W base g l x) (i:Int):Px (W.setCell ⟨g,1,none⟩ (.int .i64 i)) base g l { x with at_:=i }:=by
 obtain ⟨v,h,hg,hR⟩:=h
 exact ⟨v,(blk_set h 1 _).trans rfl,hg,Kd.R_set hR h k24_E91 _ _⟩
theorem Px.set2 {W:World} {base g:Nat} {l:List S24} {x:PS} (h:Px W base g l x) (i:Int):Px (W.setCell ⟨g,2,none⟩ (.int .i64 i)) base g l { x with deep:=i }:=by
 obtain ⟨v,h,hg,hR⟩:=h
 exact ⟨v,(blk_set h 2 _).trans rfl,hg,Kd.R_set hR h k24_E91 _ _⟩
theorem Px.set3 {W:World} {base g:Nat} {l:List S24} {x:PS} (h:Px W base g l x) (i:Int):Px (W.setCell ⟨g,3,none⟩ (.int .i64 i)) base g l { x with wrong:=i }:=by
 obtain ⟨v,h,hg,hR⟩:=h
 exact ⟨v,(blk_set h 3 _).trans rfl,hg,Kd.R_set hR h k24_E91 _ _⟩
theorem Px.set4 {W:World} {base g:Nat} {l:List S24} {x:PS} (h:Px W base g l x) (b:Bool):Px (W.setCell ⟨g,4,none⟩ (.bool b)) base g l { x with bad:=b }:=by
 obtain ⟨v,h,hg,hR⟩:=h
 exact ⟨v,(blk_set h 4 _).trans rfl,hg,Kd.R_set hR h k24_E91 _ _⟩
theorem Px.set5 {W:World} {base g:Nat} {l:List S24} {x:PS} (h:Px W base g l x) (b:Bool):Px (W.setCell ⟨g,5,none⟩ (.bool b)) base g l { x with unsure:=b }:=by
 obtain ⟨v,h,hg,hR⟩:=h
 exact ⟨v,(blk_set h 5 _).trans rfl,hg,Kd.R_set hR h k24_E91 _ _⟩
theorem grw_trans {g:Nat} {w w1 w2:World} (h:w.grownBy w1 (some g)) (k:w1.grownBy w2 (some g)):w.grownBy w2 (some g):=
 ⟨k.os.trans h.os,k.tape.trans h.tape,k.output.trans h.output,Nat.le_trans h.size k.size,fun i hi hne=>(k.block i (Nat.lt_of_lt_of_le hi h.size) hne).trans (h.block i hi hne)⟩
theorem grw_below {g:Nat} {w w1:World} (h:Below w.heap.size w w1):w.grownBy w1 (some g):=
 ⟨h.os,h.tape,h.output,h.size,fun i hi _=>h.block i hi⟩
theorem grw_drewN (g:Nat) (w:World) (m:Nat):w.grownBy (w.drewN m) (some g):=grw_below (pw_below_drewN (Below.refl _ _) m)
theorem grw_set {g:Nat} {w w1:World} (h:w.grownBy w1 (some g)) (j:Nat) (u:Value):w.grownBy (w1.setCell ⟨g,j,none⟩ u) (some g):=by
 have s:=(Below.refl 0 w1).setCell (p:=⟨g,j,none⟩) (Nat.zero_le _) u
 refine ⟨s.os.trans h.os,s.tape.trans h.tape,s.output.trans h.output,by simpa using h.size,fun i hi hne=>?_⟩
 have:i ≠ g:=fun e=>hne (by rw [e])
 exact (Below.heap_setCell w1 ⟨g,j,none⟩ u i this).trans (h.block i hi hne)
theorem grw_base {g base:Nat} {w w1:World} (h:w.grownBy w1 (some g)) (hg:base ≤ g) (hb:base ≤ w.heap.size):Below base w w1:=
 (Below.refl base w).grown h hb (fun k hk=>by injection hk with hk;omega)
theorem R_grw {α:Type} {d:Kd α} {e base g t:Nat} {ok:Nat → Prop} {W W1:World} {v:Value} {xs:List α} {cells:Array Value} (h:d.R e W base ok v xs) (hb:W.heap[g]? = some (.cells cells t (0,0))) (ht:∀ q,q ∈ e :: d.E → q ≠ t) (hw:W.grownBy W1 (some g)):d.R e W1 base ok v xs:=
 Kd.R_mono (Kd.R_step (Kd.R_types h hb ht) (fun k hk hl=>hw.block k hl (fun e=>hk.2 (by injection e)))) (fun k hk=>hk.1)
def kd (l:List S24) (i:Int):Int:=if i < l.length then (rd_T24 l i).f0 else 1
structure PS.ok (l:List S24) (x:PS):Prop where
 a0:0 ≤ x.at_
 a1:x.at_ ≤ l.length
 ll:l.length ≤ 3000
def PS.failed (x:PS):PS:=if x.bad then x else { x with bad:=true,wrong:=x.at_ }
def PS.takes (l:List S24) (x:PS) (k:Int):Bool:=!x.bad && kd l x.at_ == k
def PS.took (l:List S24) (x:PS) (k:Int):PS:=if x.takes l k then { x with at_:=x.at_ + 1 } else x
def PS.musted (l:List S24) (x:PS) (k:Int):PS:=if x.takes l k then { x with at_:=x.at_ + 1 } else x.failed
def PS.named (l:List S24) (x:PS):ByteArray × PS:=if x.takes l 15 then ((rd_T24 l x.at_).f1,{ x with at_:=x.at_ + 1 }) else (⟨#[]⟩,x.failed)
def PS.entered (x:PS):PS:=if x.deep + 1 > 60 then PS.failed { x with deep:=x.deep + 1,unsure:=true } else { x with deep:=x.deep + 1 }
def PS.left (x:PS):PS:={ x with deep:=x.deep - 1 }
theorem PS.takes_lt {l:List S24} {x:PS} {k:Int} (h:x.takes l k = true) (hk:k ≠ 1):x.at_ < l.length:=by
 unfold PS.takes kd at h
 by_cases hl:x.at_ < l.length
 ·exact hl
 ·rw [if_neg hl] at h
  simp at h
  exact absurd h.2.symm hk
set_option maxHeartbeats 1000000 in
theorem kind_any (base g:Nat) (l:List S24) (x:PS) (a:Int) (w:World) (h:Px w base g l x) (ho:x.ok l) (h0:0 ≤ a) (h1:a ≤ 10) :
  Calls Tryz.prog 109 #[.pointer (some ⟨g,0,none⟩),.int .i64 a] w fun e w'=>e = .returned (.int .i64 (kd l (x.at_ + a))) ∧ ∃ m,w.drewN m = w':=by
 obtain ⟨A,c,hc,hC,c0,c1,c2,c3,c4,c5,fz⟩:=h.cells
 have HC:=Aside0.mk hC
 have ho0:=ho.a0
 have ho1:=ho.a1
 have ho2:=ho.ll
 clear h hC ho
 obtain ⟨xa,xd,xw,xb,xu⟩:=x
 dsimp only at *
 have hw:IntKind.i64.wrap (xa + a) = xa + a:=by rw [i64_w];unfold wrap64;omega
 have hp:0 ≤ xa + a:=by omega
 by_cases hlt:xa + a < (l.length:Int)
 ·have hb:decide (xa + a ≥ (l.length:Int)) = false:=decide_eq_false (by omega)
  have hk:kd l (xa + a) = (rd_T24 l (xa + a)).f0:=if_pos hlt
  obtain ⟨ad,rfl,p0,p1,p2,p3⟩:=at_T24 HC.out (xa + a) hp hlt
  rw [hk]
  clear hk p1 p2 p3
  go_enter Tryz.func109,Tryz.ntmps109
  go_wp2_with fail
  go_quiet (fail)
  go_wp2_with fail
  go_quiet (fail)
  go_wp2_with fail
  go_ret
  exact ⟨rfl,_,(World.drewN_drewN _ _ _).symm⟩
 ·have hb:decide (xa + a ≥ (l.length:Int)) = true:=decide_eq_true (by omega)
  have hk:kd l (xa + a) = 1:=if_neg hlt
  rw [hk]
  clear hk
  go_enter Tryz.func109,Tryz.ntmps109
  go_wp2_with fail
  go_quiet (fail)
  go_wp2_with fail
  go_ret
  exact ⟨rfl,_,rfl⟩
set_option maxHeartbeats 400000 in
theorem pfail_any (base g:Nat) (l:List S24) (x:PS) (w:World) (h:Px w base g l x) :
  Calls Tryz.prog 122 #[.pointer (some ⟨g,0,none⟩)] w fun e w'=>e = .returned (.slice none 0 0) ∧ Px w' base g l x.failed ∧ w.grownBy w' (some g):=by
 have HX:=Aside0.mk h
 obtain ⟨A,c,hc,hC,c0,c1,c2,c3,c4,c5,fz⟩:=h.cells
 clear h hC
 obtain ⟨xa,xd,xw,xb,xu⟩:=x
 cases xb with
 | true=>
  go_enter Tryz.func122,Tryz.ntmps122
  go_wp2_with fail
  go_ret
  exact ⟨rfl,HX.out,World.grownBy.refl _ _⟩
 | false=>
  go_enter Tryz.func122,Tryz.ntmps122
  go_wp2_with fail
  go_ret
  exact ⟨rfl,(HX.out.set4 true).set3 xa,grw_set (grw_set (World.grownBy.refl _ _) 4 _) 3 _⟩
set_option maxHeartbeats 1000000 in
theorem taken_any (base g:Nat) (l:List S24) (x:PS) (k:Int) (w:World) (h:Px w base g l x) (ho:x.ok l) :
  Calls Tryz.prog 110 #[.pointer (some ⟨g,0,none⟩),.int .i64 k] w fun e w'=>e = .returned (.bool (x.takes l k)) ∧ Px w' base g l (x.took l k) ∧ w.grownBy w' (some g):=by
 have HX:=Aside0.mk h
 have HK:=Aside0.mk (kind_any base g l x 0 w h ho (by omega) (by omega))
 have ho0:=ho.a0
 have ho1:=ho.a1
 have ho2:=ho.ll
 obtain ⟨A,c,hc,hC,c0,c1,c2,c3,c4,c5,fz⟩:=h.cells
 clear h hC ho
 obtain ⟨xa,xd,xw,xb,xu⟩:=x
 rw [show (PS.mk xa xd xw xb xu).at_ + 0 = xa from Int.add_zero xa] at HK
 cases xb with
 | true=>
  have ht:PS.takes l ⟨xa,xd,xw,true,xu⟩ k = false:=rfl
  have htk:PS.took l ⟨xa,xd,xw,true,xu⟩ k = ⟨xa,xd,xw,true,xu⟩:=rfl
  rw [ht,htk]
  clear ht htk
  go_enter Tryz.func110,Tryz.ntmps110
  go_wp2_with fail
  go_ret
  exact ⟨rfl,HX.out,World.grownBy.refl _ _⟩
 | false=>
  obtain ⟨q,hq⟩:∃ q,q = kd l xa:=⟨_,rfl⟩
  rw [← hq] at HK
  by_cases hk:q = k
  ·have ht:PS.takes l ⟨xa,xd,xw,false,xu⟩ k = true:=by unfold PS.takes;dsimp only;rw [← hq,hk];simp
   have htk:PS.took l ⟨xa,xd,xw,false,xu⟩ k = ⟨xa + 1,xd,xw,false,xu⟩:=by unfold PS.took;rw [if_pos ht]
   rw [ht,htk]
   have hqb:(q != k) = false:=by simp [hk]
   clear ht htk hk hq
   go_enter Tryz.func110,Tryz.ntmps110
   go_wp2_with fail
   refine HK.out.mono ?_
   rintro e w1 ⟨rfl,⟨m,rfl⟩⟩
   go_wp2_with fail
   go_ret
   exact ⟨rfl,(HX.out.drewN m).set1 _,grw_set (grw_drewN _ _ _) 1 _⟩
  ·have ht:PS.takes l ⟨xa,xd,xw,false,xu⟩ k = false:=by unfold PS.takes;dsimp only;rw [← hq];simpa using hk
   have htk:PS.took l ⟨xa,xd,xw,false,xu⟩ k = ⟨xa,xd,xw,false,xu⟩:=by unfold PS.took;rw [if_neg (by rw [ht];decide)]
   rw [ht,htk]
   have hqb:(q != k) = true:=by simpa using hk
   clear ht htk hk hq
   go_enter Tryz.func110,Tryz.ntmps110
   go_wp2_with fail
   refine HK.out.mono ?_
   rintro e w1 ⟨rfl,⟨m,rfl⟩⟩
   go_wp2_with fail
   go_ret
   exact ⟨rfl,HX.out.drewN m,grw_drewN _ _ _⟩
set_option maxHeartbeats 400000 in
theorem must_any (base g:Nat) (l:List S24) (x:PS) (k:Int) (w:World) (h:Px w base g l x) (ho:x.ok l) :
  Calls Tryz.prog 111 #[.pointer (some ⟨g,0,none⟩),.int .i64 k] w fun e w'=>e = .returned (.tuple #[]) ∧ Px w' base g l (x.musted l k) ∧ w.grownBy w' (some g):=by
 have HT:=Aside0.mk (taken_any base g l x k w h ho)
 clear h ho
 obtain ⟨b,hb⟩:∃ b,b = x.takes l k:=⟨_,rfl⟩
 cases b with
 | true=>
  have hm:x.musted l k = x.took l k:=by unfold PS.musted PS.took;rw [if_pos hb.symm,if_pos hb.symm]
  rw [hm]
  rw [← hb] at HT
  clear hm hb
  go_enter Tryz.func111,Tryz.ntmps111
  go_wp2_with fail
  refine HT.out.mono ?_
  rintro e w1 ⟨rfl,hX,hB⟩
  have HX:=Aside0.mk hX
  have HB:=Aside0.mk hB
  clear hX hB
  go_wp2_with fail
  go_end0
  exact ⟨rfl,HX.out,HB.out⟩
 | false=>
  have hm:x.musted l k = x.failed:=by unfold PS.musted;rw [if_neg (by rw [← hb];decide)]
  have ht:x.took l k = x:=by unfold PS.took;rw [if_neg (by rw [← hb];decide)]
  rw [hm]
  rw [← hb,ht] at HT
  clear hm hb ht
  go_enter Tryz.func111,Tryz.ntmps111
  go_wp2_with fail
  refine HT.out.mono ?_
  rintro e w1 ⟨rfl,hX,hB⟩
  have HX:=Aside0.mk hX
  have HB:=Aside0.mk hB
  clear hX hB
  go_wp2_with fail
  refine (pfail_any base g l x w1 HX.out).mono ?_
  rintro e w2 ⟨rfl,hX2,hB2⟩
  have HX2:=Aside0.mk hX2
  have HB2:=Aside0.mk (grw_trans HB.out hB2)
  clear hX2 hB2
  go_wp2_with fail
  go_end0
  exact ⟨rfl,HX2.out,HB2.out⟩
set_option maxHeartbeats 1000000 in
theorem pname_any (base g:Nat) (l:List S24) (x:PS) (w:World) (h:Px w base g l x) (ho:x.ok l) :
  Calls Tryz.prog 112 #[.pointer (some ⟨g,0,none⟩)] w fun e w'=>e = .returned (.string (x.named l).1) ∧ Px w' base g l (x.named l).2 ∧ w.grownBy w' (some g):=by
 have HX:=Aside0.mk h
 have HK:=Aside0.mk (kind_any base g l x 0 w h ho (by omega) (by omega))
 have ho0:=ho.a0
 have ho1:=ho.a1
 have ho2:=ho.ll
 obtain ⟨A,c,hc,hC,c0,c1,c2,c3,c4,c5,fz⟩:=h.cells
 have HC:=Aside0.mk hC
 clear h hC ho
 obtain ⟨b,hb⟩:∃ b,b = x.takes l 15:=⟨_,rfl⟩
 have hlt:b = true → x.at_ < l.length:=fun e=>PS.takes_lt (hb.symm.trans e) (by decide)
 obtain ⟨xa,xd,xw,xb,xu⟩:=x
 rw [show (PS.mk xa xd xw xb xu).at_ + 0 = xa from Int.add_zero xa] at HK
 have HB:=Aside0.mk hb
 cases b with
 | false=>
  have hn:PS.named l ⟨xa,xd,xw,xb,xu⟩ = (⟨#[]⟩,PS.failed ⟨xa,xd,xw,xb,xu⟩):=by unfold PS.named;rw [if_neg (by rw [← hb];decide)]
  rw [hn]
  clear hn
  have HF:=Aside0.mk (fun w h=>pfail_any base g l ⟨xa,xd,xw,xb,xu⟩ w h)
  cases xb with
  | true=>
   clear hb hlt
   go_enter Tryz.func112,Tryz.ntmps112
   go_wp2_with fail
   refine (HF.out _ HX.out).mono ?_
   rintro e w2 ⟨rfl,hX2,hB2⟩
   have HX2:=Aside0.mk hX2
   have HB2:=Aside0.mk hB2
   clear hX2 hB2
   go_wp2_with fail
   go_ret
   exact ⟨rfl,HX2.out,HB2.out⟩
  | false=>
   have hk:(kd l xa != 15) = true:=by
    unfold PS.takes at hb
    dsimp only at hb
    cases he:(kd l xa == 15)
    ·simpa using he
    ·rw [he] at hb;cases hb
   clear hb hlt
   obtain ⟨q,hq⟩:∃ q,q = kd l xa:=⟨_,rfl⟩
   rw [← hq] at HK hk
   clear hq
   go_enter Tryz.func112,Tryz.ntmps112
   go_wp2_with fail
   refine HK.out.mono ?_
   rintro e w1 ⟨rfl,⟨m,rfl⟩⟩
   go_wp2_with fail
   refine (HF.out _ (HX.out.drewN m)).mono ?_
   rintro e w2 ⟨rfl,hX2,hB2⟩
   have HX2:=Aside0.mk hX2
   have HB2:=Aside0.mk (grw_trans (grw_drewN g w m) hB2)
   clear hX2 hB2
   go_wp2_with fail
   go_ret
   exact ⟨rfl,HX2.out,HB2.out⟩
 | true=>
  have hl:=hlt rfl
  dsimp only at hl
  have hn:PS.named l ⟨xa,xd,xw,xb,xu⟩ = ((rd_T24 l xa).f1,⟨xa + 1,xd,xw,xb,xu⟩):=by unfold PS.named;rw [if_pos hb.symm]
  rw [hn]
  clear hn hlt
  obtain ⟨rfl,hk⟩:xb = false ∧ kd l xa = 15:=by
   unfold PS.takes at hb
   simpa using hb.symm
  rw [hk] at HK
  obtain ⟨t,ht⟩:∃ t,t = rd_T24 l xa:=⟨_,rfl⟩
  rw [← ht]
  have HTT:=Aside0.mk ht
  clear hb ht hk
  have ho0:0 ≤ xa:=ho0
  have hw1:IntKind.i64.wrap (xa + 1) = xa + 1:=by rw [i64_w];unfold wrap64;omega
  have hw2:IntKind.i64.wrap (xa + 1 - 1) = xa:=by rw [i64_w];unfold wrap64;omega
  go_enter Tryz.func112,Tryz.ntmps112
  go_wp2_with fail
  refine HK.out.mono ?_
  rintro e w1 ⟨rfl,⟨m,rfl⟩⟩
  go_wp2_with fail
  obtain ⟨W,hW⟩:∃ W,W = (w.drewN m).setCell ⟨g,1,none⟩ (.int .i64 (xa + 1)):=⟨_,rfl⟩
  have hX1:=(HX.out.drewN m).set1 (xa + 1)
  have hB1:=grw_set (grw_drewN g w m) 1 (.int .i64 (xa + 1))
  rw [← hW] at hX1 hB1 ⊢
  have HX1:=Aside0.mk hX1
  have HB1:=Aside0.mk hB1
  obtain ⟨A2,cc2,hc2,hC2,d0,d1,d2,d3,d4,d5,fz2⟩:=hX1.cells
  obtain ⟨ad,rfl,p0,p1,p2,p3⟩:=at_T24 hC2 xa ho0 hl
  rw [← HTT.out] at p1
  clear hW hX1 hB1 c0 c1 c2 c3 c4 c5 fz hC2 p0 p2 p3
  go_quiet (fail)
  go_wp2_with fail
  go_ret
  exact ⟨rfl,HX1.out.drewN _,grw_trans HB1.out (grw_drewN _ _ _)⟩
set_option maxHeartbeats 400000 in
theorem enter_any (base g:Nat) (l:List S24) (x:PS) (w:World) (h:Px w base g l x) (hd0:-1000000 ≤ x.deep) (hd1:x.deep ≤ 1000000) :
  Calls Tryz.prog 79 #[.pointer (some ⟨g,0,none⟩)] w fun e w'=>e = .returned (.bool (!x.entered.bad)) ∧ Px w' base g l x.entered ∧ w.grownBy w' (some g):=by
 have HX:=Aside0.mk h
 obtain ⟨A,c,hc,hC,c0,c1,c2,c3,c4,c5,fz⟩:=h.cells
 clear h hC
 obtain ⟨xa,xd,xw,xb,xu⟩:=x
 dsimp only at *
 by_cases h6:xd + 1 > 60
 ·have he:PS.entered ⟨xa,xd,xw,xb,xu⟩ = PS.failed ⟨xa,xd + 1,xw,xb,true⟩:=by unfold PS.entered;rw [if_pos h6]
  have hbad:(PS.failed ⟨xa,xd + 1,xw,xb,true⟩).bad = true:=by unfold PS.failed;cases xb <;> rfl
  rw [he,hbad]
  obtain ⟨y,hy⟩:∃ y,y = PS.failed ⟨xa,xd + 1,xw,xb,true⟩:=⟨_,rfl⟩
  have HF:=Aside0.mk (fun w h=>pfail_any base g l ⟨xa,xd + 1,xw,xb,true⟩ w h)
  rw [← hy] at HF hbad ⊢
  have h6b:decide (xd + 1 > 60) = true:=decide_eq_true h6
  clear he hy h6
  go_enter Tryz.func79,Tryz.ntmps79
  go_wp2_with fail
  refine (HF.out _ ((HX.out.set2 _).set5 _)).mono ?_
  rintro e w2 ⟨rfl,hX2,hB2⟩
  have HX2:=Aside0.mk hX2
  have HB2:=Aside0.mk (grw_trans (grw_set (grw_set (World.grownBy.refl w (some g)) 2 (.int .i64 (xd + 1))) 5 (.bool true)) hB2)
  obtain ⟨A2,cc2,hc2,hC2,d0,d1,d2,d3,d4,d5,fz2⟩:=hX2.cells
  rw [hbad] at d4
  clear hX2 hB2 hC2 hbad
  go_wp2_with fail
  go_ret
  exact ⟨rfl,HX2.out,HB2.out⟩
 ·have he:PS.entered ⟨xa,xd,xw,xb,xu⟩ = ⟨xa,xd + 1,xw,xb,xu⟩:=by unfold PS.entered;rw [if_neg h6]
  rw [he]
  have h6b:decide (xd + 1 > 60) = false:=decide_eq_false h6
  clear he h6
  go_enter Tryz.func79,Tryz.ntmps79
  go_wp2_with fail
  go_ret
  exact ⟨rfl,HX.out.set2 _,grw_set (World.grownBy.refl _ _) 2 _⟩
set_option maxHeartbeats 400000 in
theorem leave_any (base g:Nat) (l:List S24) (x:PS) (w:World) (h:Px w base g l x) (hd0:-1000000 ≤ x.deep) (hd1:x.deep ≤ 1000000) :
  Calls Tryz.prog 81 #[.pointer (some ⟨g,0,none⟩)] w fun e w'=>e = .returned (.tuple #[]) ∧ Px w' base g l x.left ∧ w.grownBy w' (some g):=by
 have HX:=Aside0.mk h
 obtain ⟨A,c,hc,hC,c0,c1,c2,c3,c4,c5,fz⟩:=h.cells
 clear h hC
 obtain ⟨xa,xd,xw,xb,xu⟩:=x
 dsimp only at *
 go_enter Tryz.func81,Tryz.ntmps81
 go_wp2_with fail
 go_end0
 exact ⟨rfl,HX.out.set2 _,grw_set (World.grownBy.refl _ _) 2 _⟩
theorem info50:(Tryz.prog.info? 50).map (fun i=>(i.zero,i.size,i.bytes)) = some (some (.agg #[.int .i64 0,.string ⟨#[]⟩,.string ⟨#[]⟩,.string ⟨#[]⟩,.int .i64 0,.int .i64 0]),6,72):=by kernel_rfl
structure S50 where
 f0:Int
 f1:ByteArray
 f2:ByteArray
 f3:ByteArray
 f4:Int
 f5:Int
def z50:S50:=⟨0,⟨#[]⟩,⟨#[]⟩,⟨#[]⟩,0,0⟩
abbrev cs50 (x:S50):List Value:=[.int .i64 x.f0,.string x.f1,.string x.f2,.string x.f3,.int .i64 x.f4,.int .i64 x.f5]
abbrev val50 (x:S50):Value:=.agg #[.int .i64 x.f0,.string x.f1,.string x.f2,.string x.f3,.int .i64 x.f4,.int .i64 x.f5]
def k50:Kd S50:=Kd.iso (Kd.pair (Kd.int .i64) (Kd.pair Kd.string (Kd.pair Kd.string (Kd.pair Kd.string (Kd.pair (Kd.int .i64) (Kd.int .i64)))))) (fun x:S50=>(x.f0,x.f1,x.f2,x.f3,x.f4,x.f5))
theorem k50_open {w:World} {x:S50} {cs:List Value} (h:k50.K w x cs):cs = cs50 x:=by
 obtain ⟨_,_,rfl,rfl,⟨_,_,rfl,rfl,⟨_,_,rfl,rfl,⟨_,_,rfl,rfl,⟨_,_,rfl,rfl,rfl⟩⟩⟩⟩⟩:=h
 exact rfl
theorem k50_mkM (w:World) (base:Nat) (ok:Nat → Prop) (x:S50):k50.M w base ok x (cs50 x):=
 ⟨[_],[_,_,_,_,_],rfl,rfl,⟨[_],[_,_,_,_],rfl,rfl,⟨[_],[_,_,_],rfl,rfl,⟨[_],[_,_],rfl,rfl,⟨[_],[_],rfl,rfl,rfl⟩⟩⟩⟩⟩
theorem k50_sz:k50.sz = 6:=rfl
theorem k50_E:∀ q,q ∈ 50 :: k50.E → q = 50:=by
 simp [k50,Kd.iso,Kd.pair,Kd.int,Kd.string,Kd.scalar]
theorem k50_ne {t:Nat} (h:t ≠ 50):∀ q,q ∈ 50 :: k50.E → q ≠ t:=fun q hq=>by rw [k50_E q hq];exact fun e=>h e.symm
def rd_T50 (xs:List S50) (i:Int):S50:=xs.getD i.toNat z50
theorem at_T50 {w:World} {A:Option Addr} {n:Nat} {xs:List S50} (h:Kd.C k50 w A n xs) (i:Int) (h0:0 ≤ i) (h1:i < n):∃ ad,A = some ad ∧ w.cell? (ad.add (i.toNat * 6)) = some (.int .i64 (rd_T50 xs i).f0) ∧
  w.cell? ⟨(ad.add (i.toNat * 6)).block,(ad.add (i.toNat * 6)).off + 1,none⟩ = some (.string (rd_T50 xs i).f1) ∧ w.cell? ⟨(ad.add (i.toNat * 6)).block,(ad.add (i.toNat * 6)).off + 2,none⟩ = some (.string (rd_T50 xs i).f2) ∧
  w.cell? ⟨(ad.add (i.toNat * 6)).block,(ad.add (i.toNat * 6)).off + 3,none⟩ = some (.string (rd_T50 xs i).f3) ∧ w.cell? ⟨(ad.add (i.toNat * 6)).block,(ad.add (i.toNat * 6)).off + 4,none⟩ = some (.int .i64 (rd_T50 xs i).f4) ∧
  w.cell? ⟨(ad.add (i.toNat * 6)).block,(ad.add (i.toNat * 6)).off + 5,none⟩ = some (.int .i64 (rd_T50 xs i).f5):=by
 obtain ⟨ad,c,e,_,hK,hc0⟩:=Kd.C_get h z50 i h0 h1
 have hc:∀ j u,c[j]? = some u → w.cell? (ad.add (i.toNat * 6 + j)) = some u:=hc0
 obtain rfl:=k50_open hK
 exact ⟨ad,e,hc 0 _ rfl,by rw [← add_field _ _ 1 (by omega)];exact hc 1 _ rfl,by rw [← add_field _ _ 2 (by omega)];exact hc 2 _ rfl,by rw [← add_field _ _ 3 (by omega)];exact hc 3 _ rfl,by rw [← add_field _ _ 4 (by omega)];exact hc 4 _ rfl,by rw [← add_field _ _ 5 (by omega)];exact hc 5 _ rfl⟩
theorem k50_R_iff {w w1:World} {base:Nat} {ok ok':Nat → Prop} {x:S50} {cs:List Value} (h:k50.M w base ok x cs):k50.M w1 base ok' x cs:=by
 obtain rfl:=k50_open (k50.K_of_M h)
 exact k50_mkM _ _ _ _
theorem R50_one {W:World} {base g:Nat} {x:S50} (h:W.heap[g]? = some (.cells (cs50 x).toArray 50 (0,0))) (hg:base ≤ g):k50.R 50 W base (fun _=>True) (.slice (some ⟨g,0,none⟩) 1 1) [x]:=by
 refine ⟨fun _ _=>trivial,cs50 x,⟨rfl,.inr ⟨g,1,(cs50 x).toArray,rfl,hg,h,Nat.le_refl _,by decide,rfl,rfl⟩⟩,rfl,fun j p hj=>?_⟩
 cases j with
 | succ j=>simp at hj
 | zero=>
  obtain rfl:x = p:=by simpa using hj
  exact k50_mkM _ _ _ _
theorem R50_size {W:World} {base:Nat} {ok:Nat → Prop} {v:Value} {xs:List S50} (h:k50.R 50 W base ok v xs) (i:Nat) (hi:i < xs.length):∃ g c,v = .slice (some ⟨g,0,none⟩) xs.length c ∧ xs.length ≤ c ∧ base ≤ g ∧ g < W.heap.size ∧
  (∃ u,W.cell? ⟨g,i * 6 + 5,none⟩ = some u) ∧ W.frozen? ⟨g,i * 6 + 5,none⟩ = false ∧ ∀ m,k50.R 50 (W.setCell ⟨g,i * 6 + 5,none⟩ (.int .i64 m)) base ok v (xs.set i { xs[i] with f5:=m }):=by
 obtain ⟨h0,inner,⟨hl,hrow⟩,hr⟩:=h
 rcases hrow with ⟨rfl,hn⟩ | ⟨g,cap,cur,rfl,hg,hh,hnc,hcm,hcs,ht⟩
 ·omega
 have hsz:i * 6 + 5 < cur.size:=by
  rw [hcs,k50_sz]
  omega
 have hcell:=blk_cell hh (i * 6 + 5)
 refine ⟨g,cap,rfl,hnc,hg,blk_lt hh,⟨_,hcell.trans (Array.getElem?_eq_getElem hsz)⟩,blk_frozen hh _,fun m=>?_⟩
 have hset:=blk_set hh (i * 6 + 5) (.int .i64 m)
 have hl':inner.length = xs.length * 6:=hl
 refine ⟨h0,inner.set (i * 6 + 5) (.int .i64 m),⟨by rw [List.length_set,List.length_set];exact hl,.inr ⟨g,cap,_,by rw [List.length_set],hg,hset,by rw [List.length_set];exact hnc,hcm,by simpa using hcs,?_⟩⟩,by rw [List.length_set,List.length_set];exact hl,fun j p hj=>?_⟩
 ·rw [List.length_set,← ht,← List.take_set]
  simp
 ·have hrj:=hr.2 j
  rw [k50_sz] at hrj ⊢
  have hjl:j < xs.length:=by
   have:=(List.getElem?_eq_some_iff.1 hj).1
   rwa [List.length_set] at this
  have hx:=hrj xs[j] (List.getElem?_eq_getElem hjl)
  have hcs6:=k50_open (k50.K_of_M hx)
  by_cases e:j = i
  ·subst e
   have hp:p = { xs[j] with f5:=m }:=by
    rw [List.getElem?_set_self hjl] at hj
    exact (Option.some.inj hj).symm
   subst hp
   have:((inner.set (j * 6 + 5) (.int .i64 m)).drop (j * 6)).take 6 = cs50 { xs[j] with f5:=m }:=by
    rw [List.drop_set,if_neg (by omega),List.take_set,show j * 6 + 5 - j * 6 = 5 by omega,hcs6]
    rfl
   rw [this]
   exact k50_mkM _ _ _ _
  ·have hp:p = xs[j]:=by
    rw [List.getElem?_set_ne (by omega),List.getElem?_eq_getElem hjl] at hj
    exact (Option.some.inj hj).symm
   subst hp
   have:((inner.set (i * 6 + 5) (.int .i64 m)).drop (j * 6)).take 6 = (inner.drop (j * 6)).take 6:=by
    rw [List.drop_set]
    by_cases hlt:i * 6 + 5 < j * 6
    ·rw [if_pos hlt]
    ·rw [if_neg hlt,List.take_set,List.set_eq_of_length_le]
     simp
     omega
   rw [this]
   exact k50_R_iff hx
def made (n:S50) (xss:List (List S50)):List S50:={ n with f5:=1 + xss.flatten.length } :: xss.flatten
theorem row50 {w:World} {A:Option Addr} {m:Nat} {ys:List S50} (h:Kd.C k50 w A m ys):ReadsRow (k50.K w) k50.sz w A m ys:=h
theorem flat_take {α:Type} (xss:List (List α)) (k:Nat) (h:k < xss.length):(xss.take (k + 1)).flatten = (xss.take k).flatten ++ xss[k]:=by
 rw [List.take_succ_eq_append_getElem h,List.flatten_append,List.flatten_cons,List.flatten_nil,List.append_nil]
theorem flat_take_len {α:Type} (xss:List (List α)) (k:Nat) (h:k < xss.length):(xss.take k).flatten.length + xss[k].length ≤ xss.flatten.length:=by
 have e:xss.flatten = (xss.take (k + 1)).flatten ++ (xss.drop (k + 1)).flatten:=by rw [← List.flatten_append,List.take_append_drop]
 rw [e,flat_take xss k h,List.length_append,List.length_append]
 omega
set_option maxHeartbeats 2000000 in
theorem made_any (n:S50) (xss:List (List S50)) (A:Option Addr) (c:Nat) (w:World) (hK:Kd.C (Kd.slice 50 k50) w A xss.length xss) (hb:xss.flatten.length ≤ 1000000) (hl:xss.length ≤ 1000000) :
  Calls Tryz.prog 30 #[val50 n,.slice A xss.length c] w fun e w'=>(∃ v,e = .returned v ∧ k50.R 50 w' w.heap.size (fun _=>True) v (made n xss)) ∧ Below w.heap.size w w':=by
 have HK:=Aside0.mk hK
 clear hK
 have HBB:=Aside0.mk hb
 clear hb
 obtain ⟨n0,n1,n2,n3,n4,n5⟩:=n
 go_enter Tryz.func30,Tryz.ntmps30
 go_wp2_with fail
 have hR0:k50.R 50 ((w.alloc (.cells #[.int .i64 n0,.string n1,.string n2,.string n3,.int .i64 n4,.int .i64 n5] 50)).alloc (.cells #[.int .i64 n0,.string n1,.string n2,.string n3,.int .i64 n4,.int .i64 n5] 50)) w.heap.size (fun _=>True) (.slice (some ⟨w.heap.size + 1,0,none⟩) 1 1) [⟨n0,n1,n2,n3,n4,n5⟩]:=by
  refine R50_one ?_ (by omega)
  have:=blk_new (w.alloc (.cells #[.int .i64 n0,.string n1,.string n2,.string n3,.int .i64 n4,.int .i64 n5] 50)) (.cells #[.int .i64 n0,.string n1,.string n2,.string n3,.int .i64 n4,.int .i64 n5] 50)
  simpa using this
 have HR0:=Aside0.mk hR0
 have HB0:=Aside0.mk (((Below.refl w.heap.size w).alloc (Nat.le_refl _) (.cells #[.int .i64 n0,.string n1,.string n2,.string n3,.int .i64 n4,.int .i64 n5] 50)).alloc (by simp) (.cells #[.int .i64 n0,.string n1,.string n2,.string n3,.int .i64 n4,.int .i64 n5] 50))
 clear hR0
 go_loopw [5,6] (fun v5 v6 wr=>∃ k:Nat,k ≤ xss.length ∧ v6 = .int .i64 k ∧ Aside0 (k50.R 50 wr w.heap.size (fun _=>True) v5 (⟨n0,n1,n2,n3,n4,n5⟩ :: (xss.take k).flatten) ∧ Below w.heap.size w wr)) (fun _ v6 _=>xss.length - (intOf v6).toNat)
 case atStart=>exact ⟨0,Nat.zero_le _,rfl,⟨HR0.out,HB0.out⟩⟩
 case round=>
  clear HR0 HB0
  obtain ⟨k,hk,rfl,HA⟩:=hrel
  by_cases hlt:k < xss.length
  ·obtain ⟨ad,cs,rfl,hcl,⟨A2,c2,rfl,hc2,hC2⟩,hcell⟩:=Kd.C_get (Kd.C_below HK.out HA.out.2) ([]:List S50) (k:Int) (by omega) (by omega)
   have hx:xss.getD (k:Int).toNat [] = xss[k]:=by simp [hlt]
   rw [hx] at hc2 hC2 hcell
   have p0:=hcell 0 _ rfl
   have hsz:((Kd.slice 50 k50).sz) = 1:=rfl
   rw [hsz] at p0
   simp only [Int.toNat_natCast,Nat.mul_one,Nat.add_zero] at p0
   have hflat:=flat_take xss k hlt
   have hlen:((⟨n0,n1,n2,n3,n4,n5⟩ :: (xss.take k).flatten:List S50).length + xss[k].length) * 72 ≤ 140737488355328:=by
    have h1:=flat_take_len xss k hlt
    have h2:=HBB.out
    rw [List.length_cons]
    omega
   have HL:=Aside0.mk hlen
   have HF:=Aside0.mk hflat
   have HC2:=Aside0.mk (row50 hC2)
   have HO:=Aside0.mk HA.out.1
   have HB:=Aside0.mk HA.out.2
   obtain ⟨ys,hys⟩:∃ ys,ys = xss[k]:=⟨_,rfl⟩
   rw [← hys] at HL HF HC2 p0
   clear hcell hc2 hC2 hlen hflat hx HA hsz hys
   go_wp2_with (at_builtin;refine Kd.R_append_rows k50 (Rr:=k50.K wr) (w0:=w) w.heap.size rfl (.tmp 15) (.tmp 19) 41 50 _ 72 rfl Tryz.underlying41 info50 rfl (by decide) (by decide) _ (⟨n0,n1,n2,n3,n4,n5⟩ :: (xss.take k).flatten) ys A2 ys.length c2 (fun _=>True) (fun _=>False) rfl rfl HO.out HC2.out (fun x cs h=>(k50_open h) ▸ k50_mkM _ _ _ _) (fun _ hk=>hk.elim) (fun _ _=>trivial) HB.out HB.out.size HL.out ?_;intro v1 w1 hR1 hB1 hg hat;have HR1:=Aside0.mk hR1;have HB1:=Aside0.mk hB1;clear hR1 hB1 hg hat)
   go_roundw
   case rel=>exact ⟨k + 1,by omega,by go_num,⟨by rw [HF.out];exact HR1.out,HB1.out⟩⟩
   case measure=>simp [intOf];omega
  ·obtain rfl:k = xss.length:=by omega
   rw [List.take_length] at HA
   obtain ⟨g,c1,rfl,hle,hg,hgl,⟨u,hu⟩,hf,hset⟩:=R50_size HA.out.1 0 (by simp)
   have h5:wr.cell? ⟨g,5,none⟩ = some u:=by simpa using hu
   have f5:wr.frozen? ⟨g,5,none⟩ = false:=by simpa using hf
   have HS:Aside0 (∀ q:Int,q = 1 + xss.flatten.length → k50.R 50 (wr.setCell ⟨g,5,none⟩ (.int .i64 q)) w.heap.size (fun _=>True) (.slice (some ⟨g,0,none⟩) (⟨n0,n1,n2,n3,n4,n5⟩ :: xss.flatten:List S50).length c1) (made ⟨n0,n1,n2,n3,n4,n5⟩ xss)):=
    ⟨fun q hq=>by rw [hq];exact hset _⟩
   have HB:=Aside0.mk HA.out.2
   clear hu hf hset HA
   go_wp2_with fail
   go_ret
   exact ⟨⟨_,rfl,HS.out _ (by rw [List.length_flatten];omega)⟩,HB.out.setCell hg _⟩
end Go.Proofs.YtbobbognjmofdaaGreatDoor.Lex
end
