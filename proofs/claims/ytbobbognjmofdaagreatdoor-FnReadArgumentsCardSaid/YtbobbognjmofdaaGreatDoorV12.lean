import Derived.Shelf.Strings.Builder1
import Derived.Shelf.Strings.Builder2
import Derived.Shelf.Strings.OnBuilder
import Derived.Shelf.Strings.BuilderF
import Derived.Shelf.Strings.BuilderK
import Derived.Shelf.Utf8.AppendRunePlain
import Derived.Shelf.LaysM
import Derived.Shelf.Bytes.Len
import Derived.Shelf.Bytes.TryGrow
import Derived.Shelf.Bytes.GrowSliceCatch
import Derived.Shelf.Bytes.GrowSlice
import Derived.Shelf.Bytes.String
import Derived.Shelf.Bytes.GrowRow0Kept
import Derived.Shelf.Bytes.GrowRowKept
import Derived.Shelf.Bytes.GrowNilKept
import Derived.Shelf.Bytes.GrowKept
import Derived.Shelf.Bytes.WriteByteKept
import Derived.Shelf.Bytes.ResetKept
import Derived.Shelf.Bytes.WriteKept
import Derived.Shelf.Bytes.BufferK
import Derived.Shelf.Bytes.GrowRow0Own
import Derived.Shelf.Bytes.GrowRowOwn
import Derived.Shelf.Bytes.GrowNilOwn
import Derived.Shelf.Bytes.GrowOwn
import Derived.Shelf.Bytes.WriteAny
import Derived.Ground.MzProg
import Derived.Shelf.Wr.WriteRuneAscii
import Derived.Shelf.Wr.WriteRune
import Derived.Test.YtbobbognjmofdaaGreatDoorProg
import Derived.Test.YtbobbognjmofdaaGreatDoorV10
import Derived.Test.YtbobbognjmofdaaGreatDoorV11
import Derived.Lib.BufferOld
import Derived.Test.YtbobbognjmofdaaGreatDoorV09
section
section
namespace Go.Proofs
open Go.Shelf
def Tryz.lays156_ren:Go.Shelf.Ren:=⟨fun | 156=>175 | 165=>186 | 166=>187 | 169=>188 | 240=>199 | 241=>200 | 276=>226 | 277=>227 | n=>n,fun | 31=>243 | 9=>9 | 3=>3 | 4=>4 | 0=>0 | 20=>20 | 72=>293 | 76=>184 | 70=>291 | 37=>74 | 75=>60 | 127=>331 | 164=>385 | 5=>5 | 80=>188 | n=>n,fun | n=>n⟩
theorem Tryz.lays156:Go.Proofs.Lays.n156 Tryz.prog Tryz.lays156_ren:={
 mixed:=by kernel_rfl
 f156:=Tryz.func175.trans (congrArg some (by kernel_rfl))
 f165:=Tryz.func186.trans (congrArg some (by kernel_rfl))
 f166:=Tryz.func187.trans (congrArg some (by kernel_rfl))
 f169:=Tryz.func188.trans (congrArg some (by kernel_rfl))
 f240:=Tryz.func199.trans (congrArg some (by kernel_rfl))
 f241:=Tryz.func200.trans (congrArg some (by kernel_rfl))
 f276:=Tryz.func226.trans (congrArg some (by kernel_rfl))
 f277:=Tryz.func227.trans (congrArg some (by kernel_rfl))
 t0:=Tryz.underlying0
 a0:=Tryz.isAgg0
 z0:=Tryz.sizeOf0
 v0:=Tryz.zeroValue0
 t3:=Tryz.underlying3
 a3:=Tryz.isAgg3
 z3:=Tryz.sizeOf3
 v3:=Tryz.zeroValue3
 t4:=Tryz.underlying4
 a4:=Tryz.isAgg4
 z4:=Tryz.sizeOf4
 v4:=Tryz.zeroValue4
 t9:=Tryz.underlying9
 a9:=Tryz.isAgg9
 z9:=Tryz.sizeOf9
 v9:=Tryz.zeroValue9
 t20:=Tryz.underlying20
 a20:=Tryz.isAgg20
 z20:=Tryz.sizeOf20
 v20:=Tryz.zeroValue20
 t31:=Tryz.underlying243
 a31:=Tryz.isAgg243
 z31:=Tryz.sizeOf243
 v31:=Tryz.zeroValue243
 t37:=Tryz.underlying74
 a37:=Tryz.isAgg74
 z37:=Tryz.sizeOf74
 v37:=Tryz.zeroValue74
 t70:=Tryz.underlying291
 a70:=Tryz.isAgg291
 z70:=Tryz.sizeOf291
 v70:=Tryz.zeroValue291
 t72:=Tryz.underlying293
 a72:=Tryz.isAgg293
 z72:=Tryz.sizeOf293
 v72:=Tryz.zeroValue293
 t75:=Tryz.underlying60
 a75:=Tryz.isAgg60
 z75:=Tryz.sizeOf60
 v75:=Tryz.zeroValue60
 t76:=Tryz.underlying184
 a76:=Tryz.isAgg184
 z76:=Tryz.sizeOf184
 v76:=Tryz.zeroValue184
 t127:=Tryz.underlying331
 a127:=Tryz.isAgg331
 z127:=Tryz.sizeOf331
 v127:=Tryz.zeroValue331
 t164:=Tryz.underlying385
 a164:=Tryz.isAgg385
 z164:=Tryz.sizeOf385
 v164:=Tryz.zeroValue385 }
theorem Tryz.Builder_Extra_156:Builder.Extra Tryz.prog Tryz.lays156_ren:={
 sizeBuilder:=by kernel_rfl
 liesBuilder:=by kernel_rfl
 t5:=Tryz.underlying5
 a5:=Tryz.isAgg5
 z5:=Tryz.sizeOf5
 v5:=Tryz.zeroValue5
 infoByte:=by kernel_rfl
 cellsByte:=by kernel_rfl
 sizeByte:=by kernel_rfl
 neB5:=by decide }
open Go.RowKit in
theorem Tryz.strings_Join_none (a:Option Addr) (c:Nat) (sep:ByteArray) (w:World) :
  Calls Tryz.prog 175 #[.slice a 0 c,.string sep] w fun e w'=>e = .returned (.string ⟨#[]⟩) ∧ w' = w:=Any.strings_Join_none Tryz.lays156 Tryz.Builder_Extra_156 a c sep w
open Go.RowKit in
theorem Tryz.strings_Join (bk o c:Nat) (xs:List ByteArray) (sep:ByteArray) (w:World) (hcells:∀ (j:Nat) x,xs[j]? = some x → w.cell? ⟨bk,o + j,none⟩ = some (.string x)) (hbk:bk < w.heap.size) (hN:xs.length ≤ 140737488355328) (hcap:xs.length ≤ c) (hlen:(Lib.join (xs.map (·.data.toList)) sep.data.toList).length ≤ 140737488355328) :
  Calls Tryz.prog 175 #[.slice (some ⟨bk,o,none⟩) xs.length c,.string sep] w fun e w'=>e = .returned (.string ⟨(Lib.join (xs.map (·.data.toList)) sep.data.toList).toArray⟩) ∧ Below w.heap.size w w':=Any.strings_Join Tryz.lays156 Tryz.Builder_Extra_156 bk o c xs sep w hcells hbk hN hcap hlen
def Tryz.laysM182_ren:Go.Shelf.Ren:=⟨fun | 182=>100 | n=>n,fun | 130=>236 | 9=>9 | 4=>4 | 0=>0 | 93=>179 | 37=>74 | 3=>3 | 91=>177 | 5=>5 | n=>n,fun | n=>n⟩
theorem Tryz.laysM182:Go.Proofs.LaysM.n182 Tryz.prog Tryz.laysM182_ren:={
 mixed:=by kernel_rfl
 f182:=Tryz.func100.trans (congrArg some (by kernel_rfl))
 t0:=Tryz.underlying0
 a0:=Tryz.isAgg0
 z0:=Tryz.sizeOf0
 v0:=Tryz.zeroValue0
 t3:=Tryz.underlying3
 a3:=Tryz.isAgg3
 z3:=Tryz.sizeOf3
 v3:=Tryz.zeroValue3
 t4:=Tryz.underlying4
 a4:=Tryz.isAgg4
 z4:=Tryz.sizeOf4
 v4:=Tryz.zeroValue4
 t9:=Tryz.underlying9
 a9:=Tryz.isAgg9
 z9:=Tryz.sizeOf9
 v9:=Tryz.zeroValue9
 t37:=Tryz.underlying74
 a37:=Tryz.isAgg74
 z37:=Tryz.sizeOf74
 v37:=Tryz.zeroValue74
 t93:=Tryz.underlying179
 a93:=Tryz.isAgg179
 z93:=Tryz.sizeOf179
 v93:=Tryz.zeroValue179
 t130:=Tryz.underlying236
 a130:=Tryz.isAgg236
 z130:=Tryz.sizeOf236
 v130:=Tryz.zeroValue236
 t5:=Tryz.underlying5
 a5:=Tryz.isAgg5
 z5:=Tryz.sizeOf5
 v5:=Tryz.zeroValue5
 t91:=Tryz.underlying177
 a91:=Tryz.isAgg177
 z91:=Tryz.sizeOf177
 v91:=Tryz.zeroValue177
 i0:=by kernel_rfl
 i3:=by kernel_rfl
 i4:=by kernel_rfl
 i5:=by kernel_rfl
 i9:=by kernel_rfl
 i37:=by kernel_rfl
 i91:=by kernel_rfl
 i93:=by kernel_rfl
 i130:=by kernel_rfl }
open Go.RowKit in
theorem Tryz.Buffer_String (B b:Nat) (l:List UInt8) (w:World) (h:Lib.IsBuffer 179 5 B b (Lib.byteCells l) w) :
  Calls Tryz.prog 100 #[.pointer (some ⟨b,0,none⟩)] w fun e w'=>e = .returned (.string ⟨l.toArray⟩) ∧ ∃ n,w' = w.drewN n:=Any.Buffer_String Tryz.laysM182 B b l w h
def Tryz.laysM180_ren:Go.Shelf.Ren:=⟨fun | 180=>97 | 251=>139 | 252=>140 | 181=>168 | 184=>169 | 290=>170 | 324=>185 | n=>n,fun | 130=>236 | 37=>74 | 3=>3 | 75=>60 | 0=>0 | 93=>179 | 91=>177 | 131=>237 | 4=>4 | 20=>20 | 5=>5 | 80=>188 | 9=>9 | n=>n,fun | 14=>0 | n=>n⟩
theorem Tryz.laysM180:Go.Proofs.LaysM.n180 Tryz.prog Tryz.laysM180_ren:={
 mixed:=by kernel_rfl
 f180:=Tryz.func97.trans (congrArg some (by kernel_rfl))
 f181:=Tryz.func168.trans (congrArg some (by kernel_rfl))
 f184:=Tryz.func169.trans (congrArg some (by kernel_rfl))
 f251:=Tryz.func139.trans (congrArg some (by kernel_rfl))
 f252:=Tryz.func140.trans (congrArg some (by kernel_rfl))
 f290:=Tryz.func170.trans (congrArg some (by kernel_rfl))
 f324:=Tryz.func185.trans (congrArg some (by kernel_rfl))
 t0:=Tryz.underlying0
 a0:=Tryz.isAgg0
 z0:=Tryz.sizeOf0
 v0:=Tryz.zeroValue0
 t3:=Tryz.underlying3
 a3:=Tryz.isAgg3
 z3:=Tryz.sizeOf3
 v3:=Tryz.zeroValue3
 t4:=Tryz.underlying4
 a4:=Tryz.isAgg4
 z4:=Tryz.sizeOf4
 v4:=Tryz.zeroValue4
 t20:=Tryz.underlying20
 a20:=Tryz.isAgg20
 z20:=Tryz.sizeOf20
 v20:=Tryz.zeroValue20
 t37:=Tryz.underlying74
 a37:=Tryz.isAgg74
 z37:=Tryz.sizeOf74
 v37:=Tryz.zeroValue74
 t75:=Tryz.underlying60
 a75:=Tryz.isAgg60
 z75:=Tryz.sizeOf60
 v75:=Tryz.zeroValue60
 t91:=Tryz.underlying177
 a91:=Tryz.isAgg177
 z91:=Tryz.sizeOf177
 v91:=Tryz.zeroValue177
 t93:=Tryz.underlying179
 a93:=Tryz.isAgg179
 z93:=Tryz.sizeOf179
 v93:=Tryz.zeroValue179
 t130:=Tryz.underlying236
 a130:=Tryz.isAgg236
 z130:=Tryz.sizeOf236
 v130:=Tryz.zeroValue236
 t131:=Tryz.underlying237
 a131:=Tryz.isAgg237
 z131:=Tryz.sizeOf237
 v131:=Tryz.zeroValue237
 g14:=by kernel_rfl
 t5:=Tryz.underlying5
 a5:=Tryz.isAgg5
 z5:=Tryz.sizeOf5
 v5:=Tryz.zeroValue5
 t9:=Tryz.underlying9
 a9:=Tryz.isAgg9
 z9:=Tryz.sizeOf9
 v9:=Tryz.zeroValue9
 t80:=Tryz.underlying188
 a80:=Tryz.isAgg188
 z80:=Tryz.sizeOf188
 v80:=Tryz.zeroValue188
 i0:=by kernel_rfl
 i3:=by kernel_rfl
 i4:=by kernel_rfl
 i5:=by kernel_rfl
 i9:=by kernel_rfl
 i20:=by kernel_rfl
 i37:=by kernel_rfl
 i75:=by kernel_rfl
 i80:=by kernel_rfl
 i91:=by kernel_rfl
 i93:=by kernel_rfl
 i130:=by kernel_rfl
 i131:=by kernel_rfl
 m14:=by kernel_rfl }
open Go.RowKit in
theorem Tryz.Buffer_Write_k (B b:Nat) (bs cs:List Value) (a:Addr) (n c:Nat) (w:World) (h:Lib.IsBuffer 179 5 B b bs w) (hBw:B ≤ w.heap.size) (h1:∀ v ∈ bs,v.oneCell' = true) (hn:cs.length = n) (haB:a.block < B) (hsrc:∀ j v,cs[j]? = some v → w.cell? (a.add j) = some v) (h1c:∀ v ∈ cs,v.oneCell' = true) (hlim:bs.length + n ≤ 140737488355328) :
  Calls Tryz.prog 97 #[.pointer (some ⟨b,0,none⟩),.slice (some a) n c] w fun e w'=>e = .returned (.tuple #[.int .i64 n,.nilIface]) ∧ Lib.IsBuffer 179 5 B b (bs ++ cs) w' ∧ Below B w w' ∧ Lib.OthersKept 5 (some b) w w':=Any.Buffer_Write_k Tryz.laysM180 B b bs cs a n c w h hBw h1 hn haB hsrc h1c hlim
def Tryz.laysWr5_ren:Go.Shelf.Ren:=⟨fun | 5=>98 | 7=>141 | 8=>139 | 9=>140 | 10=>142 | 11=>168 | 12=>169 | 13=>170 | 14=>171 | 15=>185 | n=>n,fun | 34=>236 | 21=>21 | 3=>3 | 28=>60 | 35=>239 | 4=>4 | 5=>5 | 0=>0 | 26=>179 | 24=>177 | 37=>237 | 22=>74 | 43=>113 | 20=>20 | 31=>188 | 9=>9 | n=>n,fun | 0=>0 | n=>n⟩
theorem Tryz.laysWr5:Go.Proofs.LaysWr.n5 Tryz.prog Tryz.laysWr5_ren:={
 mixed:=by kernel_rfl
 f5:=Tryz.func98.trans (congrArg some (by kernel_rfl))
 f7:=Tryz.func141.trans (congrArg some (by kernel_rfl))
 f8:=Tryz.func139.trans (congrArg some (by kernel_rfl))
 f9:=Tryz.func140.trans (congrArg some (by kernel_rfl))
 f10:=Tryz.func142.trans (congrArg some (by kernel_rfl))
 f11:=Tryz.func168.trans (congrArg some (by kernel_rfl))
 f12:=Tryz.func169.trans (congrArg some (by kernel_rfl))
 f13:=Tryz.func170.trans (congrArg some (by kernel_rfl))
 f14:=Tryz.func171.trans (congrArg some (by kernel_rfl))
 f15:=Tryz.func185.trans (congrArg some (by kernel_rfl))
 t0:=Tryz.underlying0
 a0:=Tryz.isAgg0
 z0:=Tryz.sizeOf0
 v0:=Tryz.zeroValue0
 i0:=by kernel_rfl
 t3:=Tryz.underlying3
 a3:=Tryz.isAgg3
 z3:=Tryz.sizeOf3
 v3:=Tryz.zeroValue3
 i3:=by kernel_rfl
 t4:=Tryz.underlying4
 a4:=Tryz.isAgg4
 z4:=Tryz.sizeOf4
 v4:=Tryz.zeroValue4
 i4:=by kernel_rfl
 t5:=Tryz.underlying5
 a5:=Tryz.isAgg5
 z5:=Tryz.sizeOf5
 v5:=Tryz.zeroValue5
 i5:=by kernel_rfl
 t9:=Tryz.underlying9
 a9:=Tryz.isAgg9
 z9:=Tryz.sizeOf9
 v9:=Tryz.zeroValue9
 i9:=by kernel_rfl
 t20:=Tryz.underlying20
 a20:=Tryz.isAgg20
 z20:=Tryz.sizeOf20
 v20:=Tryz.zeroValue20
 i20:=by kernel_rfl
 t21:=Tryz.underlying21
 a21:=Tryz.isAgg21
 z21:=Tryz.sizeOf21
 v21:=Tryz.zeroValue21
 i21:=by kernel_rfl
 t22:=Tryz.underlying74
 a22:=Tryz.isAgg74
 z22:=Tryz.sizeOf74
 v22:=Tryz.zeroValue74
 i22:=by kernel_rfl
 t24:=Tryz.underlying177
 a24:=Tryz.isAgg177
 z24:=Tryz.sizeOf177
 v24:=Tryz.zeroValue177
 i24:=by kernel_rfl
 t26:=Tryz.underlying179
 a26:=Tryz.isAgg179
 z26:=Tryz.sizeOf179
 v26:=Tryz.zeroValue179
 i26:=by kernel_rfl
 t28:=Tryz.underlying60
 a28:=Tryz.isAgg60
 z28:=Tryz.sizeOf60
 v28:=Tryz.zeroValue60
 i28:=by kernel_rfl
 t31:=Tryz.underlying188
 a31:=Tryz.isAgg188
 z31:=Tryz.sizeOf188
 v31:=Tryz.zeroValue188
 i31:=by kernel_rfl
 t34:=Tryz.underlying236
 a34:=Tryz.isAgg236
 z34:=Tryz.sizeOf236
 v34:=Tryz.zeroValue236
 i34:=by kernel_rfl
 t35:=Tryz.underlying239
 a35:=Tryz.isAgg239
 z35:=Tryz.sizeOf239
 v35:=Tryz.zeroValue239
 i35:=by kernel_rfl
 t37:=Tryz.underlying237
 a37:=Tryz.isAgg237
 z37:=Tryz.sizeOf237
 v37:=Tryz.zeroValue237
 i37:=by kernel_rfl
 t43:=Tryz.underlying113
 a43:=Tryz.isAgg113
 z43:=Tryz.sizeOf113
 v43:=Tryz.zeroValue113
 i43:=by kernel_rfl
 g0:=by kernel_rfl
 m0:=by kernel_rfl }
open Go.RowKit in
theorem Tryz.Buffer_WriteRune_k (B b:Nat) (bs:List Value) (r:Int) (hr0:-2147483648 ≤ r) (hr1:r ≤ 2147483647) (w:World) (h:Lib.IsBuffer 179 5 B b bs w) (hBw:B ≤ w.heap.size) (h1:∀ v ∈ bs,v.oneCell' = true) (hlim:bs.length + 4 ≤ 140737488355328) :
  Calls Tryz.prog 98 #[.pointer (some ⟨b,0,none⟩),.int .i32 r] w fun e w'=>e = .returned (.tuple #[.int .i64 (Lib.runeCells r).length,.nilIface]) ∧ Lib.IsBuffer 179 5 B b (bs ++ Lib.runeCells r) w' ∧ Below B w w' ∧ Lib.OthersKept 5 (some b) w w':=Any.Buffer_WriteRune_k Tryz.laysWr5 B b bs r hr0 hr1 w h hBw h1 hlim
end Go.Proofs
end
section
namespace Go.Proofs.YtbobbognjmofdaaGreatDoor.PFnReadString
open Go.RowKit Go.Proofs.YtbobbognjmofdaaGreatDoorW.PrintWords Go.Proofs.YtbobbognjmofdaaGreatDoorW.PrintLast Go.Proofs.YtbobbognjmofdaaGreatDoorW.PrintMore
attribute [local go_sem] max2_int min2_int max_two min_two
set_option linter.unusedVariables false
set_option linter.unusedSimpArgs false
end Go.Proofs.YtbobbognjmofdaaGreatDoor.PFnReadString
end
section
namespace Go.Proofs.YtbobbognjmofdaaGreatDoor.PFnReadString
open Go.RowKit Go.Proofs.YtbobbognjmofdaaGreatDoorW.PrintWords Go.Proofs.YtbobbognjmofdaaGreatDoorW.PrintLast Go.Proofs.YtbobbognjmofdaaGreatDoorW.PrintMore
attribute [local go_sem] max2_int min2_int max_two min_two
set_option linter.unusedVariables false
set_option linter.unusedSimpArgs false
mutual
def lexer_char2hex.j0:Nat → Int → Bool → Option (Int)
 | 0,_,_=>none
 | k + 1,x0,x8=>if x8 = true then (some (wrap64 ((wrap64 (x0)) - 48))) else (if x0 ≥ 65 then (lexer_char2hex.j1 k x0 (decide (x0 ≤ 70))) else (lexer_char2hex.j1 k x0 false))
def lexer_char2hex.j1:Nat → Int → Bool → Option (Int)
 | 0,_,_=>none
 | k + 1,x0,x17=>if x17 = true then (some (wrap64 ((wrap64 (x0)) - 55))) else (if x0 ≥ 97 then (if x0 ≤ 102 then (some (wrap64 ((wrap64 (x0)) - 87))) else (some (-1))) else (some (-1)))
end
def lexer_char2hex.f (k:Nat) (a0:Int):Option (Int):=if a0 ≥ 48 then (lexer_char2hex.j0 k a0 (decide (a0 ≤ 57))) else (lexer_char2hex.j0 k a0 false)
set_option maxHeartbeats 8000000 in
set_option maxRecDepth 100000 in
theorem lexer_char2hex.calls (k:Nat) (a0:Int) (r:Int) (w:World) (h:lexer_char2hex.f k a0 = some r) :
  Calls Tryz.prog 143 #[.int .i32 a0] w fun e w'=>e = .returned (.int .i64 r) ∧ Drawn0 w w':=by
 have H:(if a0 ≥ 48 then (lexer_char2hex.j0 k a0 (decide (a0 ≤ 57))) else (lexer_char2hex.j0 k a0 false)) = some r:=h
 clear h
 have HC2:=Aside0.mk H
 clear H
 go_enter Tryz.func143,Tryz.ntmps143
 go_upto_region 1 with (fail)
 go_cut [8] (fun v8 wc=>∃ (kq:Nat) (x8_1:Bool),v8 = .bool x8_1 ∧ Aside0 (lexer_char2hex.j0 kq a0 x8_1 = some r) ∧ Aside0 (kq ≤ k) ∧ Drawn0 w wc)
 case first=>
  have H:=HC2.out
  clear HC2
  by_cases c3:a0 ≥ 48
  ·rw [if_pos c3] at H
   have c3b0:decide (48 ≤ a0) = true:=decide_eq_true c3
   clear c3
   (first | rw [c3b0] | (simp only [i64_w,i32_w];rw [c3b0]) | skip)
   have H':=Aside0.mk H
   clear H
   go_wp2
   go_meet
   case rel=>exact ⟨_,(decide (a0 ≤ 57)),(by first | rfl | (simp;done) | (simp [*];done)),H',⟨by first | omega | exact Nat.le_refl _⟩,by repeat (first | exact Drawn0.refl _ | apply Drawn0.step)⟩
  ·rw [if_neg c3] at H
   have c3b0:decide (48 ≤ a0) = false:=decide_eq_false c3
   clear c3
   (first | rw [c3b0] | (simp only [i64_w,i32_w];rw [c3b0]) | skip)
   have H':=Aside0.mk H
   clear H
   go_wp2
   go_meet
   case rel=>exact ⟨_,(false),(by first | rfl | (simp;done) | (simp [*];done)),H',⟨by first | omega | exact Nat.le_refl _⟩,by repeat (first | exact Drawn0.refl _ | apply Drawn0.step)⟩
 case rest=>
  clear HC2
  try clear c1
  try clear p2
  try clear c3
  try clear c3b0
  obtain ⟨kq,x8_1,rfl,HA,HJ1,⟨mc1,rfl⟩⟩:=hcut
  cases kq with
  | zero=>exact absurd HA.out (by simp [lexer_char2hex.j0])
  | succ kj1=>
   have H:=HA.out
   clear HA
   simp only [lexer_char2hex.j0] at H
   by_cases c4:x8_1 = true
   ·subst c4
    have H1:(some (wrap64 ((wrap64 (a0)) - 48))) = some r:=by rw [if_pos rfl] at H;exact H
    clear H
    have H:=H1
    clear H1
    obtain rfl:=Option.some.inj H
    go_wp2
    go_ret
    exact ⟨by first | rfl | (simp;done) | (simp [*];done),by repeat (first | exact Drawn0.refl _ | apply Drawn0.step)⟩
   ·replace c4:=Bool.eq_false_iff.mpr c4
    subst c4
    have H1:(if a0 ≥ 65 then (lexer_char2hex.j1 kj1 a0 (decide (a0 ≤ 70))) else (lexer_char2hex.j1 kj1 a0 false)) = some r:=by rw [if_neg (show ¬ (false = true) by decide)] at H;exact H
    clear H
    have H:=H1
    clear H1
    have HC5:=Aside0.mk H
    clear H
    go_upto_region 3 with (fail)
    go_cut [17] (fun v17 wc=>∃ (kq:Nat) (x17_4:Bool),v17 = .bool x17_4 ∧ Aside0 (lexer_char2hex.j1 kq a0 x17_4 = some r) ∧ Aside0 (kq ≤ kj1) ∧ Drawn0 w wc)
    case first=>
     have H:=HC5.out
     clear HC5
     by_cases c6:a0 ≥ 65
     ·rw [if_pos c6] at H
      have c6b0:decide (65 ≤ a0) = true:=decide_eq_true c6
      clear c6
      (first | rw [c6b0] | (simp only [i64_w,i32_w];rw [c6b0]) | skip)
      have H':=Aside0.mk H
      clear H
      go_wp2
      go_meet
      case rel=>exact ⟨_,(decide (a0 ≤ 70)),(by first | rfl | (simp;done) | (simp [*];done)),H',⟨by have:=HJ1.out;first | omega | exact Nat.le_refl _⟩,by repeat (first | exact Drawn0.refl _ | apply Drawn0.step)⟩
     ·rw [if_neg c6] at H
      have c6b0:decide (65 ≤ a0) = false:=decide_eq_false c6
      clear c6
      (first | rw [c6b0] | (simp only [i64_w,i32_w];rw [c6b0]) | skip)
      have H':=Aside0.mk H
      clear H
      go_wp2
      go_meet
      case rel=>exact ⟨_,(false),(by first | rfl | (simp;done) | (simp [*];done)),H',⟨by have:=HJ1.out;first | omega | exact Nat.le_refl _⟩,by repeat (first | exact Drawn0.refl _ | apply Drawn0.step)⟩
    case rest=>
     clear HC5
     try clear c1
     try clear p2
     try clear c3
     try clear c3b0
     try clear c4
     try clear c6
     try clear c6b0
     try clear p6
     try clear p2
     obtain ⟨kq,x17_4,rfl,HA,HJ4,⟨mc4,rfl⟩⟩:=hcut
     cases kq with
     | zero=>exact absurd HA.out (by simp [lexer_char2hex.j1])
     | succ kj4=>
      have H:=HA.out
      clear HA
      simp only [lexer_char2hex.j1] at H
      by_cases c7:x17_4 = true
      ·subst c7
       have H1:(some (wrap64 ((wrap64 (a0)) - 55))) = some r:=by rw [if_pos rfl] at H;exact H
       clear H
       have H:=H1
       clear H1
       obtain rfl:=Option.some.inj H
       go_wp2
       go_ret
       exact ⟨by first | rfl | (simp;done) | (simp [*];done),by repeat (first | exact Drawn0.refl _ | apply Drawn0.step)⟩
      ·replace c7:=Bool.eq_false_iff.mpr c7
       subst c7
       have H1:(if a0 ≥ 97 then (if a0 ≤ 102 then (some (wrap64 ((wrap64 (a0)) - 87))) else (some (-1))) else (some (-1))) = some r:=by rw [if_neg (show ¬ (false = true) by decide)] at H;exact H
       clear H
       have H:=H1
       clear H1
       by_cases c8:a0 ≥ 97
       ·rw [if_pos c8] at H
        have c8b0:decide (97 ≤ a0) = true:=decide_eq_true c8
        clear c8
        by_cases c9:a0 ≤ 102
        ·rw [if_pos c9] at H
         have c9b0:decide (a0 ≤ 102) = true:=decide_eq_true c9
         clear c9
         obtain rfl:=Option.some.inj H
         go_wp2
         go_ret
         exact ⟨by first | rfl | (simp;done) | (simp [*];done),by repeat (first | exact Drawn0.refl _ | apply Drawn0.step)⟩
        ·rw [if_neg c9] at H
         have c9b0:decide (a0 ≤ 102) = false:=decide_eq_false c9
         clear c9
         obtain rfl:=Option.some.inj H
         go_wp2
         go_ret
         exact ⟨by first | rfl | (simp;done) | (simp [*];done),by repeat (first | exact Drawn0.refl _ | apply Drawn0.step)⟩
       ·rw [if_neg c8] at H
        have c8b0:decide (97 ≤ a0) = false:=decide_eq_false c8
        clear c8
        obtain rfl:=Option.some.inj H
        go_wp2
        go_ret
        exact ⟨by first | rfl | (simp;done) | (simp [*];done),by repeat (first | exact Drawn0.refl _ | apply Drawn0.step)⟩
def lexer_uniCharCode.f (k:Nat) (a0:Int) (a1:Int) (a2:Int) (a3:Int):Option (Int):=(lexer_char2hex.f k a0).bind fun t174=>((lexer_char2hex.f k a1).bind fun t175=>((lexer_char2hex.f k a2).bind fun t176=>((lexer_char2hex.f k a3).bind fun t177=>(some (wrap32 (Go.bits .or .i64 (Go.bits .or .i64 (Go.bits .or .i64 (wrap64 (t174 * 4096)) (wrap64 (t175 * 256))) (wrap64 (t176 * 16))) t177))))))
set_option maxHeartbeats 8000000 in
set_option maxRecDepth 100000 in
theorem lexer_uniCharCode.calls (k:Nat) (a0:Int) (a1:Int) (a2:Int) (a3:Int) (r:Int) (w:World) (h:lexer_uniCharCode.f k a0 a1 a2 a3 = some r) :
  Calls Tryz.prog 99 #[.int .i32 a0,.int .i32 a1,.int .i32 a2,.int .i32 a3] w fun e w'=>e = .returned (.int .i32 r) ∧ Drawn0 w w':=by
 have H:((lexer_char2hex.f k a0).bind fun t174=>((lexer_char2hex.f k a1).bind fun t175=>((lexer_char2hex.f k a2).bind fun t176=>((lexer_char2hex.f k a3).bind fun t177=>(some (wrap32 (Go.bits .or .i64 (Go.bits .or .i64 (Go.bits .or .i64 (wrap64 (t174 * 4096)) (wrap64 (t175 * 256))) (wrap64 (t176 * 16))) t177))))))) = some r:=h
 clear h
 replace H:=Option.bind_eq_some_iff.mp H
 obtain ⟨t174,A50,H⟩:=H
 replace H:((lexer_char2hex.f k a1).bind fun t175=>((lexer_char2hex.f k a2).bind fun t176=>((lexer_char2hex.f k a3).bind fun t177=>(some (wrap32 (Go.bits .or .i64 (Go.bits .or .i64 (Go.bits .or .i64 (wrap64 (t174 * 4096)) (wrap64 (t175 * 256))) (wrap64 (t176 * 16))) t177)))))) = some r:=H
 have A5:=Aside0.mk A50
 clear A50
 replace H:=Option.bind_eq_some_iff.mp H
 obtain ⟨t175,A60,H⟩:=H
 replace H:((lexer_char2hex.f k a2).bind fun t176=>((lexer_char2hex.f k a3).bind fun t177=>(some (wrap32 (Go.bits .or .i64 (Go.bits .or .i64 (Go.bits .or .i64 (wrap64 (t174 * 4096)) (wrap64 (t175 * 256))) (wrap64 (t176 * 16))) t177))))) = some r:=H
 have A6:=Aside0.mk A60
 clear A60
 replace H:=Option.bind_eq_some_iff.mp H
 obtain ⟨t176,A70,H⟩:=H
 replace H:((lexer_char2hex.f k a3).bind fun t177=>(some (wrap32 (Go.bits .or .i64 (Go.bits .or .i64 (Go.bits .or .i64 (wrap64 (t174 * 4096)) (wrap64 (t175 * 256))) (wrap64 (t176 * 16))) t177)))) = some r:=H
 have A7:=Aside0.mk A70
 clear A70
 replace H:=Option.bind_eq_some_iff.mp H
 obtain ⟨t177,A80,H⟩:=H
 replace H:(some (wrap32 (Go.bits .or .i64 (Go.bits .or .i64 (Go.bits .or .i64 (wrap64 (t174 * 4096)) (wrap64 (t175 * 256))) (wrap64 (t176 * 16))) t177))) = some r:=H
 have A8:=Aside0.mk A80
 clear A80
 obtain rfl:=Option.some.inj H
 go_enter Tryz.func99,Tryz.ntmps99
 go_wp2_with (first | ((with_reducible refine gate_callee (f:=143) rfl ?_);refine goesL_ (some 10) rfl rfl Tryz.func143 (by kernel_rfl) rfl #[.int .i32 a0] rfl (by (try simp only [List.map_toArray,List.map_cons,List.map_nil]);first | done | rfl | (simp only [List.length_drop,List.length_take];rfl)) ?_;(with_reducible refine (lexer_char2hex.calls k a0 t174 _ A5.out).mono ?_);rintro e w' ⟨rfl,⟨nd,rfl⟩⟩;refine ⟨_,rfl,?_⟩) | ((with_reducible refine gate_callee (f:=143) rfl ?_);refine goesL_ (some 13) rfl rfl Tryz.func143 (by kernel_rfl) rfl #[.int .i32 a1] rfl (by (try simp only [List.map_toArray,List.map_cons,List.map_nil]);first | done | rfl | (simp only [List.length_drop,List.length_take];rfl)) ?_;(with_reducible refine (lexer_char2hex.calls k a1 t175 _ A6.out).mono ?_);rintro e w' ⟨rfl,⟨nd,rfl⟩⟩;refine ⟨_,rfl,?_⟩) | ((with_reducible refine gate_callee (f:=143) rfl ?_);refine goesL_ (some 17) rfl rfl Tryz.func143 (by kernel_rfl) rfl #[.int .i32 a2] rfl (by (try simp only [List.map_toArray,List.map_cons,List.map_nil]);first | done | rfl | (simp only [List.length_drop,List.length_take];rfl)) ?_;(with_reducible refine (lexer_char2hex.calls k a2 t176 _ A7.out).mono ?_);rintro e w' ⟨rfl,⟨nd,rfl⟩⟩;refine ⟨_,rfl,?_⟩) | ((with_reducible refine gate_callee (f:=143) rfl ?_);refine goesL_ (some 21) rfl rfl Tryz.func143 (by kernel_rfl) rfl #[.int .i32 a3] rfl (by (try simp only [List.map_toArray,List.map_cons,List.map_nil]);first | done | rfl | (simp only [List.length_drop,List.length_take];rfl)) ?_;(with_reducible refine (lexer_char2hex.calls k a3 t177 _ A8.out).mono ?_);rintro e w' ⟨rfl,⟨nd,rfl⟩⟩;refine ⟨_,rfl,?_⟩))
 go_ret
 exact ⟨by first | rfl | (simp;done) | (simp [*];done),by repeat (first | exact Drawn0.refl _ | apply Drawn0.step)⟩
def lexer_makeToken.f (a0:Int) (a1:Int) (a2:Int) (a3:ByteArray):Option (Int × Int × Int × ByteArray):=some (a0,a1,a2,a3)
set_option maxHeartbeats 8000000 in
set_option maxRecDepth 100000 in
theorem lexer_makeToken.calls (a0:Int) (a1:Int) (a2:Int) (a3:ByteArray) (r1:Int) (r2:Int) (r3:Int) (r4:ByteArray) (w:World) (h:lexer_makeToken.f a0 a1 a2 a3 = some (r1,r2,r3,r4)) :
  Calls Tryz.prog 101 #[.int .i64 a0,.int .i64 a1,.int .i64 a2,.string a3] w fun e w'=>e = .returned (.agg #[.int .i64 r1,.int .i64 r2,.int .i64 r3,.string r4]) ∧ Below w.heap.size w w':=by
 have hu58:=Tryz.underlying58
 have HB:=Aside0.mk (Below.refl w.heap.size w)
 have H:(some (a0,a1,a2,a3)) = some (r1,r2,r3,r4):=h
 clear h
 simp only [Option.some.injEq,Prod.mk.injEq] at H
 obtain ⟨rfl,rfl,rfl,rfl⟩:=H
 go_enter Tryz.func101,Tryz.ntmps101
 go_wp2_with (first | ((with_reducible refine gate_dst (N:=8) rfl ?_);refine box_event ?hg (N:=8) ?hd (cs:=#[.int .i64 0,.int .i64 0,.int .i64 0,.string (⟨#[]⟩:ByteArray)]) (t:=58) ?hr ?_;(case hd=>rfl);(case hg=>rfl);(case hr=>first | (go_simp;done) | (go_simp;rfl));intro gb178 hg w5 hbox hb;have n0_:=Aside0.mk (below_step (by repeat (first | (with_reducible first | exact HB.out | apply below_alloc | apply pw_below_drewN | apply below_drew1) | exact HB.out)) hb);have n1_:=Aside0.mk (hbox);have n2_:=Aside0.mk ((by rw [hg];exact (below_size (by repeat (first | (with_reducible first | exact HB.out | apply below_alloc | apply pw_below_drewN | apply below_drew1) | exact HB.out))):w.heap.size ≤ gb178));have n3_:=Aside0.mk ((by rw [hg];exact (below_size (by repeat (first | (with_reducible first | exact HB.out | apply below_alloc | apply pw_below_drewN | apply below_drew1) | exact HB.out))):w.heap.size ≤ gb178));clear HB;have HB:=n0_;have BK178:=n1_;have GW178:=n2_;have GE178:=n3_;clear n0_ n1_ n2_ n3_;clear hb hbox hg;have hcz6_0:w5.cell? ⟨gb178,0,none⟩ = some (.int .i64 0):=(blk_cell BK178.out 0).trans rfl;have hcz6_1:w5.cell? ⟨gb178,1,none⟩ = some (.int .i64 0):=(blk_cell BK178.out 1).trans rfl;have hcz6_2:w5.cell? ⟨gb178,2,none⟩ = some (.int .i64 0):=(blk_cell BK178.out 2).trans rfl;have hcz6_3:w5.cell? ⟨gb178,3,none⟩ = some (.string (⟨#[]⟩:ByteArray)):=(blk_cell BK178.out 3).trans rfl;have hfz6_0:=blk_frozen BK178.out 0;have hfz6_1:=blk_frozen BK178.out 1;have hfz6_2:=blk_frozen BK178.out 2;have hfz6_3:=blk_frozen BK178.out 3))
 refine bodyPost_ret (results_cell_row rfl _ _ gb178 58 #[.int .i64 a0,.int .i64 a1,.int .i64 a2,.string a3] (0,0) _ rfl (by (with_reducible repeat (first | refine blk_drewN ?_ _ | refine blk_drew ?_ | refine blk_alloc ?_ _));refine blk_put (cs:=#[.int .i64 a0,.int .i64 a1,.int .i64 a2,.string (⟨#[]⟩:ByteArray)]) ?_ 3 _ rfl;(with_reducible repeat (first | refine blk_drewN ?_ _ | refine blk_drew ?_ | refine blk_alloc ?_ _));refine blk_put (cs:=#[.int .i64 a0,.int .i64 a1,.int .i64 0,.string (⟨#[]⟩:ByteArray)]) ?_ 2 _ rfl;(with_reducible repeat (first | refine blk_drewN ?_ _ | refine blk_drew ?_ | refine blk_alloc ?_ _));refine blk_put (cs:=#[.int .i64 a0,.int .i64 0,.int .i64 0,.string (⟨#[]⟩:ByteArray)]) ?_ 1 _ rfl;(with_reducible repeat (first | refine blk_drewN ?_ _ | refine blk_drew ?_ | refine blk_alloc ?_ _));refine blk_put (cs:=#[.int .i64 0,.int .i64 0,.int .i64 0,.string (⟨#[]⟩:ByteArray)]) ?_ 0 _ rfl;(with_reducible repeat (first | refine blk_drewN ?_ _ | refine blk_drew ?_ | refine blk_alloc ?_ _));exact BK178.out) Tryz.underlying58 rfl (by kernel_rfl)) rfl ?_
 exact ⟨by first | rfl | (simp [errW_none,errW_some] <;> rfl) | (simp [*,errW_none,errW_some] <;> rfl),by repeat (first | (with_reducible first | exact HB.out | apply below_alloc | apply pw_below_drewN | apply below_drew1 | refine below_set ?_ GE178.out) | exact HB.out)⟩
end Go.Proofs.YtbobbognjmofdaaGreatDoor.PFnReadString
end
end
section
section
namespace Go.Proofs.YtbobbognjmofdaaGreatDoor.Lex
open Go.RowKit Go.Proofs.YtbobbognjmofdaaGreatDoorW.PrintWords Go.Proofs.YtbobbognjmofdaaGreatDoorW.PrintLast Go.Proofs.YtbobbognjmofdaaGreatDoorW.PrintMore
open Go.Proofs.YtbobbognjmofdaaGreatDoor.Ptext
set_option linter.unusedVariables false
set_option linter.unusedSimpArgs false
abbrev tk (k st en:Int) (v:ByteArray):Value:=.agg #[.int .i64 k,.int .i64 st,.int .i64 en,.string v]
def Told (e:Ending) (r:Option (Int × Int × Int × ByteArray)):Prop:=
 match r with
 | some q=>e = .returned (.tuple #[tk q.1 q.2.1 q.2.2.1 q.2.2.2,.nilIface])
 | none=>∃ q,e = .returned (.tuple #[tk 0 0 0 ⟨#[]⟩,.iface 182 (.pointer (some ⟨q,0,none⟩))])
def strTok (start:Int) (R:Option (Int × ByteArray)):Option (Int × Int × Int × ByteArray):=R.map fun q=>(18,start,q.1,q.2)
theorem res4 {W:World} {g T:Nat} {a0 a1 a2 a3:Value} (h:W.heap[g]? = some (.cells #[a0,a1,a2,a3] T (0,0))) (x0 x1 x2 x3:Value) :
  ((((W.setCell ⟨g,0,none⟩ x0).setCell ⟨g,1,none⟩ x1).setCell ⟨g,2,none⟩ x2).setCell ⟨g,3,none⟩ x3).cell? ⟨g,0,none⟩ = some x0 ∧ ((((W.setCell ⟨g,0,none⟩ x0).setCell ⟨g,1,none⟩ x1).setCell ⟨g,2,none⟩ x2).setCell ⟨g,3,none⟩ x3).cell? ⟨g,1,none⟩ = some x1 ∧
  ((((W.setCell ⟨g,0,none⟩ x0).setCell ⟨g,1,none⟩ x1).setCell ⟨g,2,none⟩ x2).setCell ⟨g,3,none⟩ x3).cell? ⟨g,2,none⟩ = some x2 ∧ ((((W.setCell ⟨g,0,none⟩ x0).setCell ⟨g,1,none⟩ x1).setCell ⟨g,2,none⟩ x2).setCell ⟨g,3,none⟩ x3).cell? ⟨g,3,none⟩ = some x3:=by
 have e4:=blk_set (blk_set (blk_set (blk_set h 0 x0) 1 x1) 2 x2) 3 x3
 exact ⟨(blk_cell e4 0).trans rfl,(blk_cell e4 1).trans rfl,(blk_cell e4 2).trans rfl,(blk_cell e4 3).trans rfl⟩
theorem set4_below {base g:Nat} {W0 W:World} (h:Below base W0 W) (hg:base ≤ g) (x0 x1 x2 x3:Value) :
  Below base W0 ((((W.setCell ⟨g,0,none⟩ x0).setCell ⟨g,1,none⟩ x1).setCell ⟨g,2,none⟩ x2).setCell ⟨g,3,none⟩ x3):=
 (((h.setCell hg _).setCell hg _).setCell hg _).setCell hg _
theorem bytes_at (s:ByteArray) (j:Nat) (x:UInt8) (h:s.data.toList[j]? = some x):j < s.size ∧ bt s j = (x.toNat:Int):=by
 obtain ⟨hl,he⟩:=List.getElem?_eq_some_iff.1 h
 rw [Array.length_toList] at hl
 refine ⟨hl,?_⟩
 have hl':j < s.size:=hl
 unfold bt
 rw [Int.toNat_natCast,dif_pos hl',← he]
 rfl
theorem or_neg (a b:Int) (h:-65536 ≤ a ∧ a < 0 ∨ -65536 ≤ b ∧ b < 0):-65536 ≤ bits .or .i64 a b ∧ bits .or .i64 a b < 0:=by
 have key:bits .or .i64 a b = IntKind.i64.wrap (((BitVec.ofInt 64 a ||| BitVec.ofInt 64 b).toNat:Nat):Int):=rfl
 have hlt:=(BitVec.ofInt 64 a ||| BitVec.ofInt 64 b).isLt
 rw [key,IntKind.wrap_i64]
 have hge:18446744073709551616 - 65536 ≤ (BitVec.ofInt 64 a ||| BitVec.ofInt 64 b).toNat:=by
  rw [BitVec.toNat_or]
  rcases h with ⟨h1,h2⟩ | ⟨h1,h2⟩
  ·refine Nat.le_trans ?_ Nat.left_le_or
   rw [BitVec.toNat_ofInt];omega
  ·refine Nat.le_trans ?_ Nat.right_le_or
   rw [BitVec.toNat_ofInt];omega
 omega
theorem or_add (i:Nat) (x y:Int) (hi:i ≤ 20) (hx0:0 ≤ x) (hx:x % 2 ^ i = 0) (hx1:x < 1048576) (hy0:0 ≤ y) (hy:y < 2 ^ i) (hy1:y < 1048576):bits .or .i64 x y = x + y:=
 bits_join .i64 20 (by decide) (fun n h0 h1=>by
  have h1:n < 1048576:=h1
  rw [IntKind.wrap_i64];omega) i x y hx0 hx hx1 hy0 hy hy1
theorem chex_tells (c:Int) (h0:0 ≤ c) (h1:c ≤ 255):PFnReadString.lexer_char2hex.f 3 c = some (hexv c):=by
 unfold PFnReadString.lexer_char2hex.f hexv
 simp only [PFnReadString.lexer_char2hex.j0,PFnReadString.lexer_char2hex.j1,decide_eq_true_eq]
 have e:wrap64 c = c:=wsm (by omega) (by omega)
 rw [e]
 (repeat' split) <;> first | omega | (simp_all;done) | (rw [wsm (by omega) (by omega)];done) | (congr 1;rw [wsm (by omega) (by omega)]) | (exfalso;simp_all;omega)
theorem uni_tells (a b c d:Int) (ha:0 ≤ a ∧ a ≤ 255) (hb:0 ≤ b ∧ b ≤ 255) (hc:0 ≤ c ∧ c ≤ 255) (hd:0 ≤ d ∧ d ≤ 255) :
  ∃ r,PFnReadString.lexer_uniCharCode.f 3 a b c d = some r ∧ -65536 ≤ r ∧ r ≤ 65535 ∧ (0 ≤ hexv a ∧ 0 ≤ hexv b ∧ 0 ≤ hexv c ∧ 0 ≤ hexv d → r = ((hexv a * 16 + hexv b) * 16 + hexv c) * 16 + hexv d) ∧ (hexv a < 0 ∨ hexv b < 0 ∨ hexv c < 0 ∨ hexv d < 0 → r < 0):=by
 unfold PFnReadString.lexer_uniCharCode.f
 rw [chex_tells a ha.1 ha.2,chex_tells b hb.1 hb.2,chex_tells c hc.1 hc.2,chex_tells d hd.1 hd.2]
 simp only [Option.bind_some]
 have ra:=hexv_range a
 have rb:=hexv_range b
 have rc:=hexv_range c
 have rd:=hexv_range d
 obtain ⟨x,hx⟩:∃ x,x = hexv a:=⟨_,rfl⟩
 obtain ⟨y,hy⟩:∃ y,y = hexv b:=⟨_,rfl⟩
 obtain ⟨z,hz⟩:∃ z,z = hexv c:=⟨_,rfl⟩
 obtain ⟨u,hu⟩:∃ u,u = hexv d:=⟨_,rfl⟩
 rw [← hx,← hy,← hz,← hu]
 rw [← hx] at ra
 rw [← hy] at rb
 rw [← hz] at rc
 rw [← hu] at rd
 rw [wsm (x:=x * 4096) (by omega) (by omega),wsm (x:=y * 256) (by omega) (by omega),wsm (x:=z * 16) (by omega) (by omega)]
 refine ⟨_,rfl,?_⟩
 by_cases hn:x < 0 ∨ y < 0 ∨ z < 0 ∨ u < 0
 ·have key:-65536 ≤ bits .or .i64 (bits .or .i64 (bits .or .i64 (x * 4096) (y * 256)) (z * 16)) u ∧ bits .or .i64 (bits .or .i64 (bits .or .i64 (x * 4096) (y * 256)) (z * 16)) u < 0:=by
   by_cases hu:u < 0
   ·exact or_neg _ _ (.inr (by omega))
   ·refine or_neg _ _ (.inl ?_)
    by_cases hz:z < 0
    ·exact or_neg _ _ (.inr (by omega))
    ·refine or_neg _ _ (.inl ?_)
     by_cases hy:y < 0
     ·exact or_neg _ _ (.inr (by omega))
     ·exact or_neg _ _ (.inl (by omega))
  obtain ⟨v,hv⟩:∃ v,v = bits .or .i64 (bits .or .i64 (bits .or .i64 (x * 4096) (y * 256)) (z * 16)) u:=⟨_,rfl⟩
  rw [← hv] at key ⊢
  have hw:wrap32 v = v:=by unfold wrap32;omega
  rw [hw]
  omega
 ·have k1:bits .or .i64 (x * 4096) (y * 256) = x * 4096 + y * 256:=or_add 12 _ _ (by omega) (by omega) (by omega) (by omega) (by omega) (by omega) (by omega)
  have k2:bits .or .i64 (x * 4096 + y * 256) (z * 16) = x * 4096 + y * 256 + z * 16:=or_add 8 _ _ (by omega) (by omega) (by omega) (by omega) (by omega) (by omega) (by omega)
  have k3:bits .or .i64 (x * 4096 + y * 256 + z * 16) u = x * 4096 + y * 256 + z * 16 + u:=or_add 4 _ _ (by omega) (by omega) (by omega) (by omega) (by omega) (by omega) (by omega)
  rw [k1,k2,k3]
  have hw:wrap32 (x * 4096 + y * 256 + z * 16 + u) = x * 4096 + y * 256 + z * 16 + u:=by unfold wrap32;omega
  rw [hw]
  omega
theorem hexs4 (s:ByteArray) (q:Int):hexs s 4 q 0 = if hexv (nx s q) < 0 then .error q else if hexv (nx s (q + 1)) < 0 then .error (q + 1) else if hexv (nx s (q + 2)) < 0 then .error (q + 2) else if hexv (nx s (q + 3)) < 0 then .error (q + 3) else .ok (((hexv (nx s q) * 16 + hexv (nx s (q + 1))) * 16 + hexv (nx s (q + 2))) * 16 + hexv (nx s (q + 3))):=by
 simp only [hexs,show q + 1 + 1 = q + 2 by omega,show q + 2 + 1 = q + 3 by omega]
 (repeat' split) <;> first | rfl | (congr 1;omega)
theorem enc_rune (n:Int) (h0:0 ≤ n) (h1:n ≤ 65535) (h2:¬ (55296 ≤ n ∧ n < 57344)):(Utf8.encode n).data.toList = Lib.encodeRune n:=by
 obtain ⟨m,rfl⟩:=Int.eq_ofNat_of_zero_le h0
 have hv:Utf8.valid (m:Int) = true:=by
  simp only [Utf8.valid];simp;omega
 unfold Utf8.encode Lib.encodeRune Lib.encodeRuneZ
 simp only [hv,if_true,Int.toNat_natCast]
 by_cases c1:m < 128
 ·rw [if_pos c1,if_pos (show 0 ≤ (m:Int) ∧ (m:Int) ≤ 127 by omega)]
  simp
 rw [if_neg c1,if_neg (show ¬ (0 ≤ (m:Int) ∧ (m:Int) ≤ 127) by omega)]
 by_cases c2:m < 2048
 ·rw [if_pos c2,if_pos (show 128 ≤ (m:Int) ∧ (m:Int) ≤ 2047 by omega)]
  simp only [List.map_cons,List.map_nil]
  have e1:(192 + (m:Int) / 64).toNat = 192 + m / 64:=by omega
  have e2:(128 + (m:Int) % 64).toNat = 128 + m % 64:=by omega
  rw [e1,e2]
 rw [if_neg c2,if_neg (show ¬ (128 ≤ (m:Int) ∧ (m:Int) ≤ 2047) by omega),if_pos (show m < 65536 by omega),if_pos (show 2048 ≤ (m:Int) ∧ (m:Int) < 55296 ∨ 57343 < (m:Int) ∧ (m:Int) ≤ 65535 by omega)]
 simp only [List.map_cons,List.map_nil]
 have e1:(224 + (m:Int) / 4096).toNat = 224 + m / 4096:=by omega
 have e2:(128 + (m:Int) / 64 % 64).toNat = 128 + m / 64 % 64:=by omega
 have e3:(128 + (m:Int) % 64).toNat = 128 + m % 64:=by omega
 rw [e1,e2,e3]
theorem ext_app (s:ByteArray) (a b c:Nat) (h1:a ≤ b) (h2:b ≤ c) (h3:c ≤ s.size):(s.extract a b).data.toList ++ (s.extract b c).data.toList = (s.extract a c).data.toList:=by
 rw [ByteArray.data_extract,ByteArray.data_extract,ByteArray.data_extract,← Array.toList_append,Array.extract_append_extract]
 rw [Nat.min_eq_left h1,Nat.max_eq_right h2]
theorem rn_nx (s:ByteArray) (q:Int) (h0:0 ≤ q):(nx s q = 0 → (rn s q).1 ≤ 0) ∧ (0 < nx s q ∧ nx s q < 128 → rn s q = (nx s q,1) ∧ q < s.size) ∧ (128 ≤ nx s q → 128 ≤ (rn s q).1):=by
 unfold nx
 by_cases h:q < (s.size:Int)
 ·rw [if_pos h]
  refine ⟨fun e=>?_,fun e=>⟨rn_small s q h0 h e.2,h⟩,fun e=>(rn_bounds s q h0 h).2.2.2.2.2 e⟩
  rw [rn_small s q h0 h (by omega),e]
  exact Int.le_refl _
 ·rw [if_neg h,rn_eof s q (by omega)]
  exact ⟨fun _=>by decide,fun e=>by omega,fun e=>by omega⟩
def escRune (x:Int):Int:=if x = 98 then 8 else if x = 102 then 12 else if x = 110 then 10 else if x = 114 then 13 else if x = 116 then 9 else x
theorem esc_cases (x:Int) (t:ByteArray) (h:escText x = some t):x = 34 ∨ x = 92 ∨ x = 47 ∨ x = 98 ∨ x = 102 ∨ x = 110 ∨ x = 114 ∨ x = 116:=by
 unfold escText at h
 (repeat' split at h) <;> first | omega | cases h
theorem esc_pos (x:Int) (t:ByteArray) (h:escText x = some t):0 < x ∧ x < 128:=by
 have:=esc_cases x t h;omega
theorem esc_enc (x:Int) (t:ByteArray) (h:escText x = some t):t.data.toList = Lib.encodeRune (escRune x):=by
 rcases esc_cases x t h with rfl | rfl | rfl | rfl | rfl | rfl | rfl | rfl
 all_goals
  have ht:=Option.some.inj h
  rw [← ht];rfl
theorem esc_none (x:Int) (h:escText x = none):x ≠ 34 ∧ x ≠ 92 ∧ x ≠ 47 ∧ x ≠ 98 ∧ x ≠ 102 ∧ x ≠ 110 ∧ x ≠ 114 ∧ x ≠ 116:=by
 unfold escText at h
 (repeat' split at h) <;> first | (refine ⟨?_,?_,?_,?_,?_,?_,?_,?_⟩ <;> assumption) | cases h
theorem encodeRune_len (r:Int):(Lib.encodeRune r).length ≤ 4:=by
 unfold Lib.encodeRune Lib.encodeRuneZ
 (repeat' split) <;> simp
theorem app_text (a:List UInt8) (t:ByteArray) (l:List UInt8) (h:t.data.toList = l):(⟨(a ++ l).toArray⟩:ByteArray) = (⟨a.toArray⟩:ByteArray) ++ t:=by
 subst h
 apply ByteArray.ext;simp
theorem hexs_err (s:ByteArray) (q:Int) (h:hexv (nx s q) < 0 ∨ hexv (nx s (q + 1)) < 0 ∨ hexv (nx s (q + 2)) < 0 ∨ hexv (nx s (q + 3)) < 0):∃ e,hexs s 4 q 0 = .error e:=by
 rw [hexs4]
 (repeat' split) <;> first | exact ⟨_,rfl⟩ | (exfalso;omega)
theorem quiet_uni (a b c d r:Int) (n:Nat) (w:World) (h:PFnReadString.lexer_uniCharCode.f 3 a b c d = some r) :
  Calls Tryz.prog 99 #[.int .i32 a,.int .i32 b,.int .i32 c,.int .i32 d] (w.drewN n) fun e w''=>e = .returned (.int .i32 r) ∧ ∃ m,w'' = w.drewN m:=by
 refine (PFnReadString.lexer_uniCharCode.calls 3 a b c d r _ h).mono ?_
 rintro e w' ⟨he,⟨m,rfl⟩⟩
 exact ⟨he,n + m,World.drewN_drewN ..⟩
theorem write_seg (s:ByteArray) (b c B gb cap:Nat) (ch p:Int) (bs:List UInt8) (w:World) (hS:Src w b c s) (hI:Lib.IsBuffer 179 5 B gb (Lib.byteCells bs) w) (hBw:B ≤ w.heap.size) (hb:b < B) (h0:0 ≤ ch) (h1:ch ≤ p) (h2:p ≤ s.size) (hs:s.size ≤ 2000) (hl:bs.length ≤ 100000) :
  Calls Tryz.prog 97 #[.pointer (some ⟨gb,0,none⟩),.slice (some ⟨b,ch.toNat,none⟩) (p.toNat - ch.toNat) cap] w fun e w'=>(∃ v,e = .returned v) ∧ Lib.IsBuffer 179 5 B gb (Lib.byteCells (bs ++ (s.extract ch.toNat p.toNat).data.toList)) w' ∧ Below B w w':=by
 have hsz:(s.extract ch.toNat p.toNat).size = p.toNat - ch.toNat:=by rw [ByteArray.size_extract];omega
 have hlen:(Lib.byteCells (s.extract ch.toNat p.toNat).data.toList).length = p.toNat - ch.toNat:=by
  rw [Lib.byteCells_length,Array.length_toList];exact hsz
 refine (Tryz.Buffer_Write_k B gb (Lib.byteCells bs) (Lib.byteCells (s.extract ch.toNat p.toNat).data.toList) ⟨b,ch.toNat,none⟩ (p.toNat - ch.toNat) cap w hI hBw (Lib.byteCells_one _) hlen hb ?_ (Lib.byteCells_one _) (by rw [Lib.byteCells_length];omega)).mono ?_
 ·intro j v hj
  rw [Lib.byteCells,List.getElem?_map] at hj
  cases hx:(s.extract ch.toNat p.toNat).data.toList[j]? with
  | none=>rw [hx] at hj;cases hj
  | some x=>
   rw [hx] at hj
   have hv:Value.int .u8 (x.toNat:Int) = v:=Option.some.inj hj
   obtain ⟨hjl,hjb⟩:=bytes_at _ j x hx
   rw [hsz] at hjl
   have hc:=hS.cell ((ch.toNat + j:Nat):Int) (by omega) (by omega)
   rw [Int.toNat_natCast] at hc
   have hbt:bt s ((ch.toNat + j:Nat):Int) = bt (s.extract ch.toNat p.toNat) (j:Int):=by
    rw [bt_get,bt_get]
    simp only [ByteArray.get!,ByteArray.data_extract,getElem!_def,Array.getElem?_extract]
    have:s.size = s.data.size:=rfl
    rw [if_pos (by omega)]
   rw [← hv,← hjb,← hbt,← hc]
   congr 1
   show (⟨b,ch.toNat,none⟩:Addr).add j = _
   unfold Addr.add
   split
   ·rename_i h;subst h;rfl
   ·rfl
 ·rintro e w' ⟨rfl,hI',hb',_⟩
  rw [← Lib.byteCells_append] at hI'
  exact ⟨⟨_,rfl⟩,hI',hb'⟩
theorem write_rune (B gb:Nat) (r:Int) (bs:List UInt8) (w:World) (hI:Lib.IsBuffer 179 5 B gb (Lib.byteCells bs) w) (hBw:B ≤ w.heap.size) (h0:0 ≤ r) (h1:r ≤ 1114111) (hl:bs.length ≤ 100000) :
  Calls Tryz.prog 98 #[.pointer (some ⟨gb,0,none⟩),.int .i32 r] w fun e w'=>(∃ v,e = .returned v) ∧ Lib.IsBuffer 179 5 B gb (Lib.byteCells (bs ++ Lib.encodeRune r)) w' ∧ Below B w w':=by
 refine (Tryz.Buffer_WriteRune_k B gb (Lib.byteCells bs) r (by omega) (by omega) w hI hBw (Lib.byteCells_one _) (by rw [Lib.byteCells_length];omega)).mono ?_
 rintro e w' ⟨rfl,hI',hb',_⟩
 rw [← Lib.byteCells_encodeRune,← Lib.byteCells_append] at hI'
 exact ⟨⟨_,rfl⟩,hI',hb'⟩
theorem txt_mono (s:ByteArray):∀ (k:Nat) (p:Int) (o:ByteArray),(txt s k p o true).2 = true:=by
 intro k
 induction k with
 | zero=>intro p o;rfl
 | succ k ih=>
  intro p o
  rw [txt]
  (repeat' split) <;> first | rfl | simp [ih]
end Go.Proofs.YtbobbognjmofdaaGreatDoor.Lex
end
section
namespace Go.Proofs.YtbobbognjmofdaaGreatDoor.Lex
open Go.RowKit Go.Proofs.YtbobbognjmofdaaGreatDoorW.PrintWords Go.Proofs.YtbobbognjmofdaaGreatDoorW.PrintLast Go.Proofs.YtbobbognjmofdaaGreatDoorW.PrintMore
open Go.Proofs.YtbobbognjmofdaaGreatDoor.Ptext
set_option linter.unusedVariables false
set_option linter.unusedSimpArgs false
theorem rn_ascii (s:ByteArray) (p:Int) (h0:0 ≤ p) (h1:0 < nx s p) (h2:nx s p < 128):rn s p = (nx s p,1):=by
 have hlt:p < (s.size:Int):=nx_in (by omega)
 rw [nx_bt hlt] at h2 ⊢
 exact rn_small s p h0 hlt h2
theorem rn_other (s:ByteArray) (p:Int) (h0:0 ≤ p) (h:nx s p = 0 ∨ 128 ≤ nx s p):(rn s p).1 ≤ 0 ∨ 128 ≤ (rn s p).1:=by
 by_cases hlt:p < (s.size:Int)
 ·rw [nx_bt hlt] at h
  rcases h with h | h
  ·rw [rn_small s p h0 hlt (by omega)];exact .inl (by show bt s p ≤ 0;omega)
  ·exact .inr ((rn_bounds s p h0 hlt).2.2.2.2.2 h)
 ·rw [rn_eof s p (by omega)];exact .inl (by decide)
theorem rn_is (s:ByteArray) (p k:Int) (h0:0 ≤ p) (hk:0 < k) (hk2:k < 128):((rn s p).1 = k ↔ nx s p = k) ∧ (nx s p = k → (rn s p).2 = 1):=by
 have hr:=nx_range s p
 by_cases h:0 < nx s p ∧ nx s p < 128
 ·rw [rn_ascii s p h0 h.1 h.2];exact ⟨Iff.rfl,fun _=>rfl⟩
 ·have:=rn_other s p h0 (by omega)
  exact ⟨⟨fun h1=>by omega,fun h1=>by omega⟩,fun h1=>by omega⟩
theorem rn_dg (s:ByteArray) (p:Int) (h0:0 ≤ p):((48 ≤ (rn s p).1 ∧ (rn s p).1 ≤ 57) ↔ isDg (nx s p) = true) ∧ (isDg (nx s p) = true → (rn s p).2 = 1):=by
 have hr:=nx_range s p
 by_cases h:0 < nx s p ∧ nx s p < 128
 ·rw [rn_ascii s p h0 h.1 h.2,isDg_iff];exact ⟨Iff.rfl,fun _=>rfl⟩
 ·have:=rn_other s p h0 (by omega)
  rw [isDg_iff]
  exact ⟨⟨fun h1=>by omega,fun h1=>by omega⟩,fun h1=>by omega⟩
set_option maxRecDepth 4000 in
set_option maxHeartbeats 1000000 in
theorem readDigits_any (s:ByteArray) (g b c:Nat) (p:Int) (w:World) (h:Src w b c s) (hg:w.cell? ⟨g,0,none⟩ = some (.slice (some ⟨b,0,none⟩) s.size c)) (hs:s.size ≤ 2000) (h0:0 ≤ p) (hp:p ≤ s.size) :
  Calls Tryz.prog 148 #[.pointer (some ⟨g,0,none⟩),.int .i64 p,.int .i32 (rn s p).1,.int .i64 (rn s p).2] w fun e w'=>
   (if isDg (nx s p) = true then e = .returned (.tuple #[.int .i64 (dge s p),.nilIface]) else ∃ q,e = .returned (.tuple #[.int .i64 p,.iface 182 (.pointer (some ⟨q,0,none⟩))])) ∧ Below w.heap.size w w':=by
 have HS:=Aside0.mk h
 have HG:=Aside0.mk hg
 obtain ⟨⟨cd,n⟩,hrn⟩:∃ r,r = rn s p:=⟨_,rfl⟩
 have hdg:=rn_dg s p h0
 rw [← hrn] at hdg ⊢
 have HRN:=Aside0.mk hrn
 clear h hrn
 cases hd:isDg (nx s p) with
 | false=>
  have hnd:¬ (48 ≤ cd ∧ cd ≤ 57):=fun h=>by rw [hdg.1.1 h] at hd;cases hd
  clear hdg
  go_enter Tryz.func148,Tryz.ntmps148
  go_upto_region 4 with fail
  go_cut [25] (fun v wc=>v = .bool false ∧ wc = w)
  case first=>
   by_cases e1:cd ≥ 48
   ·have b1:decide (cd ≥ 48) = true:=decide_eq_true e1
    have b2:decide (cd ≤ 57) = false:=decide_eq_false (by omega)
    go_wp2_with fail
    go_meet
    case rel=>exact ⟨rfl,rfl⟩
   ·have b1:decide (cd ≥ 48) = false:=decide_eq_false e1
    go_wp2_with fail
    go_meet
    case rel=>exact ⟨rfl,rfl⟩
  case rest=>
   obtain ⟨rfl,rfl⟩:=hcut
   clear hnd hg
   go_wp2_with fail
   refine (PFnReadString.synErr_any s g (some ⟨b,0,none⟩) c p _ _ HG.out HS.out.cells HS.out.le hs (by omega) (by omega)).mono ?_
   rintro e w9 ⟨⟨q,rfl⟩,hb9⟩
   have HB9:=Aside0.mk hb9
   clear hb9
   go_wp2_with fail
   go_ret2
   exact ⟨⟨q,rfl⟩,HB9.out⟩
 | true=>
  obtain ⟨hd1,hd2⟩:=hdg.1.2 hd
  obtain rfl:n = 1:=hdg.2 hd
  have HD:=Aside0.mk hd
  clear hdg hd
  have b1:decide (cd ≥ 48) = true:=decide_eq_true hd1
  have b2:decide (cd ≤ 57) = true:=decide_eq_true hd2
  obtain ⟨R,hR⟩:∃ R,R = dge s p:=⟨_,rfl⟩
  rw [← hR]
  have HR:=Aside0.mk hR
  clear hR
  go_enter Tryz.func148,Tryz.ntmps148
  go_wp2_with fail
  clear hg b1 b2
  go_loopg [3,11,12] ((s.size:Int) - p).toNat (fun kq v3 v11 v12 wr=>∃ (q:Int),v3 = .int .i64 (rn s q).2 ∧ v11 = .int .i64 q ∧ v12 = .int .i32 (rn s q).1 ∧ Aside0 (p ≤ q ∧ q ≤ s.size ∧ kq = ((s.size:Int) - q).toNat ∧ dge s q = R ∧ Below w.heap.size w wr))
  case atStart=>exact ⟨p,by rw [← HRN.out],rfl,by rw [← HRN.out],⟨by omega,by omega,rfl,HR.out.symm,Below.refl _ _⟩⟩
  case round=>
   obtain ⟨q,rfl,rfl,rfl,HA⟩:=hrel
   have hq1:=HA.out.1
   have hq2:=HA.out.2.1
   have HSr:=Aside0.mk (HS.out.below HA.out.2.2.2.2)
   have HBB:=Aside0.mk HA.out.2.2.2.2
   obtain ⟨⟨c2,n2_⟩,hrn⟩:∃ r,r = rn s q:=⟨_,rfl⟩
   have hdg:=rn_dg s q (by omega)
   rw [← hrn] at hdg ⊢
   clear hrn
   cases hd:isDg (nx s q) with
   | true=>
    obtain ⟨hd1,hd2⟩:=hdg.1.2 hd
    obtain rfl:n2_ = 1:=hdg.2 hd
    have hlt:q < (s.size:Int):=nx_in (by intro h0;rw [h0] at hd;cases hd)
    have hn:dge s (q + 1) = R:=by rw [← HA.out.2.2.2.1,dge_eq s q,if_pos hd]
    have HN:=Aside0.mk hn
    have b1:decide (c2 ≥ 48) = true:=decide_eq_true hd1
    have b2:decide (c2 ≤ 57) = true:=decide_eq_true hd2
    clear hdg hd hn
    go_wp2_with fail
    refine (runeAt_any s b c (q + 1) _ HSr.out hs (by omega) (by omega)).mono ?_
    rintro e w2 ⟨rfl,hb2⟩
    have HB2:=Aside0.mk (below_then HBB.out HBB.out.size hb2)
    clear hb2
    go_wp2_with fail
    go_roundg ((s.size:Int) - (q + 1)).toNat
    case measure=>have:=HA.out.2.2.1;omega
    case rel=>exact ⟨q + 1,rfl,rfl,rfl,⟨by omega,by omega,rfl,HN.out,HB2.out⟩⟩
   | false=>
    have hnd:¬ (48 ≤ c2 ∧ c2 ≤ 57):=fun h=>by rw [hdg.1.1 h] at hd;cases hd
    have hn:R = q:=by rw [← HA.out.2.2.2.1,dge_none hd]
    have HN:=Aside0.mk hn
    clear hdg hd hn
    by_cases e1:c2 ≥ 48
    ·have b1:decide (c2 ≥ 48) = true:=decide_eq_true e1
     have b2:decide (c2 ≤ 57) = false:=decide_eq_false (by omega)
     go_wp2_with fail
     go_ret2
     rw [HN.out]
     exact ⟨rfl,HBB.out⟩
    ·have b1:decide (c2 ≥ 48) = false:=decide_eq_false e1
     go_wp2_with fail
     go_ret2
     rw [HN.out]
     exact ⟨rfl,HBB.out⟩
end Go.Proofs.YtbobbognjmofdaaGreatDoor.Lex
end
end
section
section
namespace Go.Proofs.YtbobbognjmofdaaGreatDoor.Lex
open Go.RowKit Go.Proofs.YtbobbognjmofdaaGreatDoorW.PrintWords Go.Proofs.YtbobbognjmofdaaGreatDoorW.PrintLast Go.Proofs.YtbobbognjmofdaaGreatDoorW.PrintMore
open Go.Proofs.YtbobbognjmofdaaGreatDoor.Ptext
set_option linter.unusedVariables false
set_option linter.unusedSimpArgs false
def numTok (s:ByteArray) (p:Int):Option (Int × Int × Int × ByteArray):=(num s p).map fun q=>(q.1,p,q.2,s.extract p.toNat q.2.toNat)
theorem num_a {s:ByteArray} {p:Int} (h:isDg (nx s (sgnp s p)) = false):numTok s p = none:=by unfold numTok;rw [num_none1 h];rfl
theorem num_b {s:ByteArray} {p:Int} (h:nx s (sgnp s p) = 48) (h2:isDg (nx s (sgnp s p + 1)) = true):numTok s p = none:=by unfold numTok num;rw [if_pos (.inr ⟨h,h2⟩)];rfl
theorem num_c {s:ByteArray} {p:Int} (h:isDg (nx s (sgnp s p)) = true) (h2:¬ (nx s (sgnp s p) = 48 ∧ isDg (nx s (sgnp s p + 1)) = true)):num s p = (frac s (dge s (sgnp s p))).bind fun q=>expo s q.1 q.2:=by
 unfold num
 rw [if_neg]
 rintro (h3 | h3)
 ·rw [h] at h3;cases h3
 ·exact h2 h3
theorem conv_sub (W:World) (b c:Nat) (s:ByteArray) (p e:Int) (h:Src W b c s) (h0:0 ≤ p) (h1:p ≤ e) (h2:e ≤ s.size) (cap:Nat) :
  (convert 74 9 (.slice (some ⟨b,p.toNat,none⟩) (e.toNat - p.toNat) cap)).run Tryz.prog W = .ok (.string (s.extract p.toNat e.toNat)) W:=by
 have key:=run_convert_bytes_arg (P:=Tryz.prog) W 74 5 Tryz.underlying74 Tryz.underlying5 b p.toNat (e.toNat - p.toNat) cap ((Bv.by' (s.extract p.toNat e.toNat)).map fun x=>(x.toNat:Int))
  (by rw [List.length_map,Bv.by_length,ByteArray.size_extract];omega)
  (fun i hi=>by
   have hc:=h.cell (p + (i:Int)) (by omega) (by omega)
   rw [show (p + (i:Int)).toNat = p.toNat + i by omega] at hc
   rw [hc]
   have hz:(s.extract p.toNat e.toNat).size = e.toNat - p.toNat:=by rw [ByteArray.size_extract];omega
   obtain ⟨x,hx1,hx2⟩:=Bv.bt_by (s:=s.extract p.toNat e.toNat) (i:=i) (by omega)
   have hl:i < (Bv.by' (s.extract p.toNat e.toNat)).length:=by rw [Bv.by_length];omega
   have hx3:bt s (p + (i:Int)) = (x.toNat:Int):=by
    rw [← hx2,Bv.extract_mk]
    rw [Bv.extract_mk] at hx1
    rw [Bv.by_mk] at hx1
    rw [List.getElem?_drop,List.getElem?_take] at hx1
    rw [if_pos (by omega)] at hx1
    obtain ⟨y,hy1,hy2⟩:=Bv.bt_by (s:=s) (i:=p.toNat + i) (by omega)
    rw [hy1] at hx1
    rw [show p + (i:Int) = ((p.toNat + i:Nat):Int) by omega,hy2]
    rw [← Bv.extract_mk,hx2]
    rw [Option.some.inj hx1]
   rw [List.getD,List.getElem?_map,hx1,hx3]
   rfl) 9 Tryz.underlying9
 have e2:strOfNums ((Bv.by' (s.extract p.toNat e.toNat)).map fun x=>(x.toNat:Int)) = s.extract p.toNat e.toNat:=by
  apply Bv.ba_ext
  show (strOfNums _).data.toList = _
  rw [strOfNums_data,List.map_map]
  refine (List.map_congr_left (fun x _=>?_)).trans (List.map_id _)
  show UInt8.ofNat ((x.toNat:Int)).toNat = x
  rw [Int.toNat_natCast]
  exact UInt8.ofNat_toNat
 rw [e2] at key
 exact key
set_option maxRecDepth 4000 in
set_option maxHeartbeats 8000000 in
theorem readNumber_any (s:ByteArray) (g b c:Nat) (p:Int) (w:World) (h:Src w b c s) (hg:w.cell? ⟨g,0,none⟩ = some (.slice (some ⟨b,0,none⟩) s.size c)) (hs:s.size ≤ 2000) (h0:0 ≤ p) (hp:p < s.size) :
  Calls Tryz.prog 107 #[.pointer (some ⟨g,0,none⟩),.int .i64 p,.int .i32 (rn s p).1,.int .i64 (rn s p).2] w fun e w'=>Told e (numTok s p) ∧ Below w.heap.size w w':=by
 have hg1:∀ o,(w.alloc o).cell? ⟨g,0,none⟩ = some (.slice (some ⟨b,0,none⟩) s.size c):=fun o=>PFnReadString.old_cell (below_alloc (Below.refl _ _) o) hg
 have HS:=Aside0.mk h
 obtain ⟨T,hT⟩:∃ T,T = numTok s p:=⟨_,rfl⟩
 rw [← hT]
 have HT:=Aside0.mk hT
 obtain ⟨⟨cd,n⟩,hrn⟩:∃ r,r = rn s p:=⟨_,rfl⟩
 have his:=rn_is s p 45 h0 (by decide) (by decide)
 rw [← hrn] at his ⊢
 have HRN:=Aside0.mk hrn
 obtain ⟨a,ha⟩:∃ a,a = sgnp s p:=⟨_,rfl⟩
 have hal:=sgnp_le s p
 have hal2:sgnp s p ≤ s.size:=by unfold sgnp;split <;> omega
 rw [← ha] at hal hal2
 have HA:=Aside0.mk ha
 clear h hg hT hrn ha
 go_enter Tryz.func107,Tryz.ntmps107
 go_upto_if 29 with fail
 obtain ⟨W1,hW1⟩:∃ W1,W1 = w.alloc (.cells #[.int .i64 0,.int .i64 0,.int .i64 0,.string ⟨#[]⟩] 58):=⟨_,rfl⟩
 have hB1:Below w.heap.size w W1:=by rw [hW1];exact below_alloc (Below.refl _ _) _
 have hE1:W1.heap[w.heap.size]? = some (.cells #[.int .i64 0,.int .i64 0,.int .i64 0,.string ⟨#[]⟩] 58 (0,0)):=by
  rw [hW1];exact heap_alloc_new _ _
 have hz1:W1.heap.size = w.heap.size + 1:=by rw [hW1];simp
 have hg1:W1.cell? ⟨g,0,none⟩ = some (.slice (some ⟨b,0,none⟩) s.size c):=by rw [hW1];exact hg1 _
 rw [← hW1]
 have HB1:=Aside0.mk hB1
 have HE1:=Aside0.mk hE1
 have HZ1:=Aside0.mk hz1
 have HG1:=Aside0.mk hg1
 have HS1:=Aside0.mk (HS.out.below hB1)
 have HX1:=Aside0.mk (Below.refl W1.heap.size W1)
 clear hW1 hB1 hE1 hz1 hg1 HS
 go_cut [3,10,12] (fun v3 v10 v12 wc=>v3 = .int .i64 (rn s a).2 ∧ v10 = .int .i32 (rn s a).1 ∧ v12 = .int .i64 a ∧ Aside0 (Below W1.heap.size W1 wc))
 case first=>
  by_cases e1:cd = 45
  ·have b1:(cd == 45) = true:=by simp [e1]
   obtain rfl:n = 1:=his.2 (his.1.1 e1)
   have h1:p + 1 = a:=by rw [HA.out];unfold sgnp;rw [if_pos (his.1.1 e1)]
   have H1:=Aside0.mk h1
   clear h1 e1 his
   go_wp2_with fail
   refine (runeAt_any s b c (p + 1) _ (HS1.out.below HX1.out) hs (by omega) (by omega)).mono ?_
   rintro e w2 ⟨rfl,hb2⟩
   have HX2:Aside0 (Below W1.heap.size W1 w2):=⟨below_then HX1.out HX1.out.size hb2⟩
   clear hb2
   go_wp2_with fail
   go_meet
   case rel=>rw [← H1.out];exact ⟨rfl,rfl,rfl,⟨HX2.out⟩⟩
  ·have b1:(cd == 45) = false:=by simp [e1]
   have h1:p = a:=by rw [HA.out];unfold sgnp;rw [if_neg (fun h=>e1 (his.1.2 h))]
   have H1:=Aside0.mk h1
   clear h1 e1 his
   go_wp2_with fail
   go_meet
   case rel=>rw [← H1.out,← HRN.out];exact ⟨rfl,rfl,rfl,⟨HX1.out⟩⟩
 case rest=>
 obtain ⟨rfl,rfl,rfl,HX2⟩:=hcut
 clear his
 obtain ⟨w2,rfl⟩:∃ w9,w9 = wc:=⟨_,rfl⟩
 obtain ⟨⟨ca,na⟩,hrn⟩:∃ r,r = rn s a:=⟨_,rfl⟩
 have his:=rn_is s a 48 (by omega) (by decide) (by decide)
 rw [← hrn] at his ⊢
 have HRA:=Aside0.mk hrn
 obtain ⟨t1,ht1⟩:∃ t,t = dge s a:=⟨_,rfl⟩
 have ht1l:=dge_le s a
 rw [← ht1] at ht1l
 have ht1a:=ht1l.1
 have ht1b:=ht1l.2 hal2
 have HT1:=Aside0.mk ht1
 clear hrn ht1 ht1l
 go_upto_if 40 with fail
 go_cut [3,10,12] (fun v3 v10 v12 wc=>v3 = .int .i64 (rn s t1).2 ∧ v10 = .int .i32 (rn s t1).1 ∧ v12 = .int .i64 t1 ∧ Aside0 (T = ((frac s t1).bind fun q=>expo s q.1 q.2).map fun q=>(q.1,p,q.2,s.extract p.toNat q.2.toNat)) ∧ Aside0 (Below W1.heap.size W1 wc))
 case first=>
  by_cases e1:ca = 48
  ·have b1:(ca == 48) = true:=by simp [e1]
   have hx48:=his.1.1 e1
   obtain rfl:na = 1:=his.2 hx48
   have hlt:a < (s.size:Int):=nx_in (by omega)
   have hdg:=rn_dg s (a + 1) (by omega)
   have hd0:isDg (nx s a) = true:=by rw [hx48];rfl
   clear e1 his
   go_wp2_with fail
   refine (runeAt_any s b c (a + 1) _ (HS1.out.below HX2.out) hs (by omega) (by omega)).mono ?_
   rintro e w3 ⟨rfl,hb2⟩
   have HX3:Aside0 (Below W1.heap.size W1 w3):=⟨below_then HX2.out HX2.out.size hb2⟩
   clear hb2
   obtain ⟨⟨cb,nb⟩,hrn⟩:∃ r,r = rn s (a + 1):=⟨_,rfl⟩
   rw [← hrn] at hdg ⊢
   have HRB:=Aside0.mk hrn
   clear hrn
   cases hd:isDg (nx s (a + 1)) with
   | true=>
    obtain ⟨hd1,hd2⟩:=hdg.1.2 hd
    have b2:decide (cb ≥ 48) = true:=decide_eq_true hd1
    have b3:decide (cb ≤ 57) = true:=decide_eq_true hd2
    have hf:T = none:=by rw [HT.out];exact num_b (by rw [← HA.out];exact hx48) (by rw [← HA.out];exact hd)
    have HF:=Aside0.mk hf
    clear hdg hd hf hd1 hd2
    go_wp2_with fail
    refine (PFnReadString.synErr_any s g (some ⟨b,0,none⟩) c (a + 1) _ _ (PFnReadString.old_cell HX3.out HG1.out) (HS1.out.below HX3.out).cells (HS1.out.below HX3.out).le hs (by omega) (by omega)).mono ?_
    rintro e w4 ⟨⟨q,rfl⟩,hb9⟩
    have HX4:Aside0 (Below W1.heap.size W1 w4):=⟨below_then HX3.out HX3.out.size hb9⟩
    clear hb9
    have e0:w4.heap[w.heap.size]? = some (.cells #[.int .i64 0,.int .i64 0,.int .i64 0,.string ⟨#[]⟩] 58 (0,0)):=(HX4.out.block _ (by have:=HZ1.out;omega)).trans HE1.out
    have d0:=(blk_cell e0 0).trans rfl
    have d1:=(blk_cell e0 1).trans rfl
    have d2:=(blk_cell e0 2).trans rfl
    have d3:=(blk_cell e0 3).trans rfl
    have f0:=fun j=>blk_frozen e0 j
    have E0:=Aside0.mk e0
    clear e0
    go_wp2_with fail
    obtain ⟨q0,q1,q2,q3⟩:=res4 E0.out (.int .i64 0) (.int .i64 0) (.int .i64 0) (.string ⟨#[]⟩)
    refine bodyPost_ret (v:=.tuple #[tk 0 0 0 ⟨#[]⟩,.iface 182 (.pointer (some ⟨q,0,none⟩))]) (by simp [results,Tryz.results107,go_sem,q0,q1,q2,q3]) rfl ⟨?_,?_⟩
    ·rw [HF.out]
     exact ⟨q,rfl⟩
    ·exact set4_below (HB1.out.trans (HX4.out.mono (by have:=HZ1.out;omega))) (Nat.le_refl _) _ _ _ _
   | false=>
    have hnd:¬ (48 ≤ cb ∧ cb ≤ 57):=fun h=>by rw [hdg.1.1 h] at hd;cases hd
    have ht:a + 1 = t1:=by rw [HT1.out,(dge_some hd0).1,dge_none hd]
    have hf:T = ((frac s t1).bind fun q=>expo s q.1 q.2).map fun q=>(q.1,p,q.2,s.extract p.toNat q.2.toNat):=by
     rw [HT.out];unfold numTok
     rw [num_c (by rw [← HA.out];exact hd0) (by rw [← HA.out,hd];simp),← HA.out,← HT1.out]
    have HF:=Aside0.mk hf
    have HTT:=Aside0.mk ht
    clear hdg hd hf ht
    by_cases e2:cb ≥ 48
    ·have b2:decide (cb ≥ 48) = true:=decide_eq_true e2
     have b3:decide (cb ≤ 57) = false:=decide_eq_false (by omega)
     go_wp2_with fail
     go_meet
     case rel=>rw [← HTT.out,← HRB.out];exact ⟨rfl,rfl,rfl,⟨by rw [HTT.out];exact HF.out⟩,⟨HX3.out⟩⟩
    ·have b2:decide (cb ≥ 48) = false:=decide_eq_false e2
     go_wp2_with fail
     go_meet
     case rel=>rw [← HTT.out,← HRB.out];exact ⟨rfl,rfl,rfl,⟨by rw [HTT.out];exact HF.out⟩,⟨HX3.out⟩⟩
  ·have b1:(ca == 48) = false:=by simp [e1]
   have hx48:nx s a ≠ 48:=fun h=>e1 (his.1.2 h)
   clear e1 his
   go_wp2_with fail
   have hdd:=(readDigits_any s g b c a _ (HS1.out.below HX2.out) (PFnReadString.old_cell HX2.out HG1.out) hs (by omega) (by omega))
   rw [← HRA.out] at hdd
   refine hdd.mono ?_
   clear hdd
   rintro e w3 ⟨he,hb2⟩
   have HX3:Aside0 (Below W1.heap.size W1 w3):=⟨below_then HX2.out HX2.out.size hb2⟩
   clear hb2
   cases hd:isDg (nx s a) with
   | true=>
    rw [if_pos hd] at he
    subst he
    rw [← HT1.out]
    have hf:T = ((frac s t1).bind fun q=>expo s q.1 q.2).map fun q=>(q.1,p,q.2,s.extract p.toNat q.2.toNat):=by
     rw [HT.out];unfold numTok
     rw [num_c (by rw [← HA.out];exact hd) (by rw [← HA.out];exact fun h=>hx48 h.1),← HA.out,← HT1.out]
    have HF:=Aside0.mk hf
    clear hf hd
    go_wp2_with fail
    refine (runeAt_any s b c t1 _ (HS1.out.below HX3.out) hs (by omega) (by omega)).mono ?_
    rintro e w4 ⟨rfl,hb2⟩
    have HX4:Aside0 (Below W1.heap.size W1 w4):=⟨below_then HX3.out HX3.out.size hb2⟩
    clear hb2
    go_wp2_with fail
    go_meet
    case rel=>exact ⟨rfl,rfl,rfl,⟨HF.out⟩,⟨HX4.out⟩⟩
   | false=>
    rw [if_neg (by simp [hd])] at he
    obtain ⟨q,rfl⟩:=he
    have hf:T = none:=by rw [HT.out];exact num_a (by rw [← HA.out];exact hd)
    have HF:=Aside0.mk hf
    clear hf hd
    have e0:w3.heap[w.heap.size]? = some (.cells #[.int .i64 0,.int .i64 0,.int .i64 0,.string ⟨#[]⟩] 58 (0,0)):=(HX3.out.block _ (by have:=HZ1.out;omega)).trans HE1.out
    have d0:=(blk_cell e0 0).trans rfl
    have d1:=(blk_cell e0 1).trans rfl
    have d2:=(blk_cell e0 2).trans rfl
    have d3:=(blk_cell e0 3).trans rfl
    have f0:=fun j=>blk_frozen e0 j
    have E0:=Aside0.mk e0
    clear e0
    go_wp2_with fail
    obtain ⟨q0,q1,q2,q3⟩:=res4 E0.out (.int .i64 0) (.int .i64 0) (.int .i64 0) (.string ⟨#[]⟩)
    refine bodyPost_ret (v:=.tuple #[tk 0 0 0 ⟨#[]⟩,.iface 182 (.pointer (some ⟨q,0,none⟩))]) (by simp [results,Tryz.results107,go_sem,q0,q1,q2,q3]) rfl ⟨?_,?_⟩
    ·rw [HF.out]
     exact ⟨q,rfl⟩
    ·exact set4_below (HB1.out.trans (HX3.out.mono (by have:=HZ1.out;omega))) (Nat.le_refl _) _ _ _ _
 case rest=>
 obtain ⟨rfl,rfl,rfl,HF1,HX3⟩:=hcut
 clear his
 obtain ⟨w3,rfl⟩:∃ w9,w9 = wc:=⟨_,rfl⟩
 obtain ⟨⟨c1,n1⟩,hrn⟩:∃ r,r = rn s t1:=⟨_,rfl⟩
 have his:=rn_is s t1 46 (by omega) (by decide) (by decide)
 rw [← hrn] at his ⊢
 have HR1:=Aside0.mk hrn
 clear hrn
 go_upto_if 82 with fail
 go_cut [3,10,12,13] (fun v3 v10 v12 v13 wc=>∃ (k t2:Int),v3 = .int .i64 (rn s t2).2 ∧ v10 = .int .i32 (rn s t2).1 ∧ v12 = .int .i64 t2 ∧ v13 = .bool (k == 17) ∧ Aside0 (frac s t1 = some (k,t2) ∧ (k = 16 ∨ k = 17) ∧ p ≤ t2 ∧ t2 ≤ s.size) ∧ Aside0 (Below W1.heap.size W1 wc))
 case first=>
  by_cases e1:c1 = 46
  ·have b1:(c1 == 46) = true:=by simp [e1]
   have hx46:=his.1.1 e1
   obtain rfl:n1 = 1:=his.2 hx46
   have hlt:t1 < (s.size:Int):=nx_in (by omega)
   obtain ⟨t2,ht2⟩:∃ t,t = dge s (t1 + 1):=⟨_,rfl⟩
   have hl2:=dge_le s (t1 + 1)
   rw [← ht2] at hl2
   have hl2a:=hl2.1
   have hl2b:=hl2.2 (by omega)
   have HT2:=Aside0.mk ht2
   clear e1 his ht2 hl2
   go_wp2_with fail
   refine (runeAt_any s b c (t1 + 1) _ (HS1.out.below HX3.out) hs (by omega) (by omega)).mono ?_
   rintro e w4 ⟨rfl,hb2⟩
   have HX4:Aside0 (Below W1.heap.size W1 w4):=⟨below_then HX3.out HX3.out.size hb2⟩
   clear hb2
   go_wp2_with fail
   refine (readDigits_any s g b c (t1 + 1) _ (HS1.out.below HX4.out) (PFnReadString.old_cell HX4.out HG1.out) hs (by omega) (by omega)).mono ?_
   rintro e w5 ⟨he,hb2⟩
   have HX5:Aside0 (Below W1.heap.size W1 w5):=⟨below_then HX4.out HX4.out.size hb2⟩
   clear hb2
   cases hd:isDg (nx s (t1 + 1)) with
   | true=>
    rw [if_pos hd] at he
    subst he
    rw [← HT2.out]
    have hf:frac s t1 = some (17,t2):=by unfold frac;rw [if_pos hx46,if_pos hd,← HT2.out]
    have HF:=Aside0.mk hf
    clear hf hd
    go_wp2_with fail
    refine (runeAt_any s b c t2 _ (HS1.out.below HX5.out) hs (by omega) (by omega)).mono ?_
    rintro e w6 ⟨rfl,hb2⟩
    have HX6:Aside0 (Below W1.heap.size W1 w6):=⟨below_then HX5.out HX5.out.size hb2⟩
    clear hb2
    go_wp2_with fail
    go_meet
    case rel=>exact ⟨17,t2,rfl,rfl,rfl,rfl,⟨HF.out,.inr rfl,by omega,by omega⟩,⟨HX6.out⟩⟩
   | false=>
    rw [if_neg (by simp [hd])] at he
    obtain ⟨q,rfl⟩:=he
    have hf:T = none:=by rw [HF1.out];unfold frac;rw [if_pos hx46,if_neg (by simp [hd])];rfl
    have HF:=Aside0.mk hf
    clear hf hd
    have e0:w5.heap[w.heap.size]? = some (.cells #[.int .i64 0,.int .i64 0,.int .i64 0,.string ⟨#[]⟩] 58 (0,0)):=(HX5.out.block _ (by have:=HZ1.out;omega)).trans HE1.out
    have d0:=(blk_cell e0 0).trans rfl
    have d1:=(blk_cell e0 1).trans rfl
    have d2:=(blk_cell e0 2).trans rfl
    have d3:=(blk_cell e0 3).trans rfl
    have f0:=fun j=>blk_frozen e0 j
    have E0:=Aside0.mk e0
    clear e0
    go_wp2_with fail
    obtain ⟨q0,q1,q2,q3⟩:=res4 E0.out (.int .i64 0) (.int .i64 0) (.int .i64 0) (.string ⟨#[]⟩)
    refine bodyPost_ret (v:=.tuple #[tk 0 0 0 ⟨#[]⟩,.iface 182 (.pointer (some ⟨q,0,none⟩))]) (by simp [results,Tryz.results107,go_sem,q0,q1,q2,q3]) rfl ⟨?_,?_⟩
    ·rw [HF.out]
     exact ⟨q,rfl⟩
    ·exact set4_below (HB1.out.trans (HX5.out.mono (by have:=HZ1.out;omega))) (Nat.le_refl _) _ _ _ _
  ·have b1:(c1 == 46) = false:=by simp [e1]
   have hf:frac s t1 = some (16,t1):=by unfold frac;rw [if_neg (fun h=>e1 (his.1.2 h))]
   have HF:=Aside0.mk hf
   clear e1 his hf
   go_wp2_with fail
   go_meet
   case rel=>exact ⟨16,t1,by rw [← HR1.out],by rw [← HR1.out],rfl,rfl,⟨HF.out,.inl rfl,by omega,by omega⟩,⟨HX3.out⟩⟩
 case rest=>
 obtain ⟨k,t2,rfl,rfl,rfl,rfl,HFR,HX4⟩:=hcut
 clear his
 obtain ⟨w4,rfl⟩:∃ w9,w9 = wc:=⟨_,rfl⟩
 have hk:=HFR.out.2.1
 have hl2a:=HFR.out.2.2.1
 have hl2b:=HFR.out.2.2.2
 have hT2:T = (expo s k t2).map fun q=>(q.1,p,q.2,s.extract p.toNat q.2.toNat):=by rw [HF1.out,HFR.out.1];rfl
 have HF2:=Aside0.mk hT2
 obtain ⟨⟨c2,n2_⟩,hrn⟩:∃ r,r = rn s t2:=⟨_,rfl⟩
 have his:=rn_is s t2 69 (by omega) (by decide) (by decide)
 have his2:=rn_is s t2 101 (by omega) (by decide) (by decide)
 rw [← hrn] at his his2 ⊢
 have HR2:=Aside0.mk hrn
 clear hrn hT2
 go_upto_region 28 with fail
 go_cut [116] (fun v116 wc=>v116 = .bool (c2 == 69 || c2 == 101) ∧ wc = w4)
 case first=>
  by_cases e1:c2 = 69
  ·have b1:(c2 == 69) = true:=by simp [e1]
   clear e1 his his2
   go_wp2_with fail
   go_meet
   case rel=>exact ⟨by rw [b1];rfl,rfl⟩
  ·have b1:(c2 == 69) = false:=by simp [e1]
   clear e1 his his2
   go_wp2_with fail
   go_meet
   case rel=>exact ⟨by rw [b1];rfl,rfl⟩
 case rest=>
 obtain ⟨rfl,rfl⟩:=hcut
 obtain ⟨w4,rfl⟩:∃ w9,w9 = wc:=⟨_,rfl⟩
 go_upto_if 116 with fail
 go_cut [12,13] (fun v12 v13 wc=>∃ (k3 t3:Int),v12 = .int .i64 t3 ∧ v13 = .bool (k3 == 17) ∧ Aside0 (expo s k t2 = some (k3,t3) ∧ (k3 = 16 ∨ k3 = 17) ∧ p ≤ t3 ∧ t3 ≤ s.size) ∧ Aside0 (Below W1.heap.size W1 wc))
 case first=>
  cases hb:(c2 == 69 || c2 == 101) with
  | true=>
   have hx:nx s t2 = 101 ∨ nx s t2 = 69:=by
    simp only [Bool.or_eq_true,beq_iff_eq] at hb
    rcases hb with h | h
    ·exact .inr (his.1.1 h)
    ·exact .inl (his2.1.1 h)
   obtain rfl:n2_ = 1:=by
    rcases hx with h | h
    ·exact his2.2 h
    ·exact his.2 h
   have hlt:t2 < (s.size:Int):=nx_in (by omega)
   obtain ⟨a3,ha3⟩:∃ t,t = epl s t2:=⟨_,rfl⟩
   have he3:=epl_le s t2
   have he4:epl s t2 ≤ s.size:=by
    unfold epl
    split
    ·rename_i h
     have:=nx_in (s:=s) (p:=t2 + 1) (by omega)
     omega
    ·omega
   rw [← ha3] at he3 he4
   have HA3:=Aside0.mk ha3
   have hex:expo s k t2 = if isDg (nx s a3) = true then some (17,dge s a3) else none:=by unfold expo;rw [if_pos hx,← ha3]
   have HEX:=Aside0.mk hex
   obtain ⟨t4,ht4⟩:∃ t,t = dge s a3:=⟨_,rfl⟩
   have hl4:=dge_le s a3
   rw [← ht4] at hl4
   have hl4a:=hl4.1
   have hl4b:=hl4.2 he4
   have HT4:=Aside0.mk ht4
   clear hb his his2 ha3 hex ht4 hl4
   go_wp2_with fail
   refine (runeAt_any s b c (t2 + 1) _ (HS1.out.below HX4.out) hs (by omega) (by omega)).mono ?_
   rintro e w5 ⟨rfl,hb2⟩
   have HX5:Aside0 (Below W1.heap.size W1 w5):=⟨below_then HX4.out HX4.out.size hb2⟩
   clear hb2
   obtain ⟨⟨c3,n3_⟩,hrn⟩:∃ r,r = rn s (t2 + 1):=⟨_,rfl⟩
   have his:=rn_is s (t2 + 1) 43 (by omega) (by decide) (by decide)
   have his2:=rn_is s (t2 + 1) 45 (by omega) (by decide) (by decide)
   rw [← hrn] at his his2 ⊢
   have HR3:=Aside0.mk hrn
   clear hrn
   go_upto_region 32 with fail
   go_cut [131] (fun v131 wc=>v131 = .bool (c3 == 43 || c3 == 45) ∧ wc = w5)
   case first=>
    by_cases e1:c3 = 43
    ·have b1:(c3 == 43) = true:=by simp [e1]
     clear e1 his his2
     go_wp2_with fail
     go_meet
     case rel=>exact ⟨by rw [b1];rfl,rfl⟩
    ·have b1:(c3 == 43) = false:=by simp [e1]
     clear e1 his his2
     go_wp2_with fail
     go_meet
     case rel=>exact ⟨by rw [b1];rfl,rfl⟩
   case rest=>
   obtain ⟨rfl,rfl⟩:=hcut
   obtain ⟨w5,rfl⟩:∃ w9,w9 = wc:=⟨_,rfl⟩
   go_upto_if 131 with fail
   go_cut [3,10,12] (fun v3 v10 v12 wc=>v3 = .int .i64 (rn s a3).2 ∧ v10 = .int .i32 (rn s a3).1 ∧ v12 = .int .i64 a3 ∧ Aside0 (Below W1.heap.size W1 wc))
   case first=>
    cases hb:(c3 == 43 || c3 == 45) with
    | true=>
     have hx:nx s (t2 + 1) = 43 ∨ nx s (t2 + 1) = 45:=by
      simp only [Bool.or_eq_true,beq_iff_eq] at hb
      rcases hb with h | h
      ·exact .inl (his.1.1 h)
      ·exact .inr (his2.1.1 h)
     obtain rfl:n3_ = 1:=by
      rcases hx with h | h
      ·exact his.2 h
      ·exact his2.2 h
     have h3:t2 + 2 = a3:=by rw [HA3.out];unfold epl;rw [if_pos hx]
     have H3:=Aside0.mk h3
     clear hb his his2 hx h3
     go_wp2_with fail
     have h22:t2 + 1 + 1 = t2 + 2:=by omega
     (try rw [h22])
     refine (runeAt_any s b c (t2 + 2) _ (HS1.out.below HX5.out) hs (by omega) (by omega)).mono ?_
     rintro e w6 ⟨rfl,hb2⟩
     have HX6:Aside0 (Below W1.heap.size W1 w6):=⟨below_then HX5.out HX5.out.size hb2⟩
     clear hb2
     go_wp2_with fail
     go_meet
     case rel=>rw [← H3.out];exact ⟨rfl,rfl,(by first | rfl | (congr 1;omega)),⟨HX6.out⟩⟩
    | false=>
     have hx:¬ (nx s (t2 + 1) = 43 ∨ nx s (t2 + 1) = 45):=by
      simp only [Bool.or_eq_false_iff,beq_eq_false_iff_ne] at hb
      rintro (h | h)
      ·exact hb.1 (his.1.2 h)
      ·exact hb.2 (his2.1.2 h)
     have h3:t2 + 1 = a3:=by rw [HA3.out];unfold epl;rw [if_neg hx]
     have H3:=Aside0.mk h3
     clear hb his his2 hx h3
     go_wp2_with fail
     go_meet
     case rel=>rw [← H3.out,← HR3.out];exact ⟨rfl,rfl,rfl,⟨HX5.out⟩⟩
   case rest=>
   obtain ⟨rfl,rfl,rfl,HX6⟩:=hcut
   clear his his2
   obtain ⟨w6,rfl⟩:∃ w9,w9 = wc:=⟨_,rfl⟩
   go_wp2_with fail
   refine (readDigits_any s g b c a3 _ (HS1.out.below HX6.out) (PFnReadString.old_cell HX6.out HG1.out) hs (by omega) (by omega)).mono ?_
   rintro e w7 ⟨he,hb2⟩
   have HX7:Aside0 (Below W1.heap.size W1 w7):=⟨below_then HX6.out HX6.out.size hb2⟩
   clear hb2
   cases hd:isDg (nx s a3) with
   | true=>
    rw [if_pos hd] at he
    subst he
    rw [← HT4.out]
    have hf:expo s k t2 = some (17,t4):=by rw [HEX.out,if_pos hd,← HT4.out]
    have HF:=Aside0.mk hf
    clear hf hd
    go_wp2_with fail
    go_meet
    case rel=>exact ⟨17,t4,rfl,rfl,⟨HF.out,.inr rfl,by omega,by omega⟩,⟨HX7.out⟩⟩
   | false=>
    rw [if_neg (by simp [hd])] at he
    obtain ⟨q,rfl⟩:=he
    have hf:T = none:=by rw [HF2.out,HEX.out,if_neg (by simp [hd])];rfl
    have HF:=Aside0.mk hf
    clear hf hd
    have e0:w7.heap[w.heap.size]? = some (.cells #[.int .i64 0,.int .i64 0,.int .i64 0,.string ⟨#[]⟩] 58 (0,0)):=(HX7.out.block _ (by have:=HZ1.out;omega)).trans HE1.out
    have d0:=(blk_cell e0 0).trans rfl
    have d1:=(blk_cell e0 1).trans rfl
    have d2:=(blk_cell e0 2).trans rfl
    have d3:=(blk_cell e0 3).trans rfl
    have f0:=fun j=>blk_frozen e0 j
    have E0:=Aside0.mk e0
    clear e0
    go_wp2_with fail
    obtain ⟨q0,q1,q2,q3⟩:=res4 E0.out (.int .i64 0) (.int .i64 0) (.int .i64 0) (.string ⟨#[]⟩)
    refine bodyPost_ret (v:=.tuple #[tk 0 0 0 ⟨#[]⟩,.iface 182 (.pointer (some ⟨q,0,none⟩))]) (by simp [results,Tryz.results107,go_sem,q0,q1,q2,q3]) rfl ⟨?_,?_⟩
    ·rw [HF.out]
     exact ⟨q,rfl⟩
    ·exact set4_below (HB1.out.trans (HX7.out.mono (by have:=HZ1.out;omega))) (Nat.le_refl _) _ _ _ _
  | false=>
   have hf:expo s k t2 = some (k,t2):=by
    simp only [Bool.or_eq_false_iff,beq_eq_false_iff_ne] at hb
    unfold expo
    rw [if_neg]
    rintro (h | h)
    ·exact hb.2 (his2.1.2 h)
    ·exact hb.1 (his.1.2 h)
   have HF:=Aside0.mk hf
   clear hf hb his his2
   go_wp2_with fail
   go_meet
   case rel=>exact ⟨k,t2,rfl,rfl,⟨HF.out,hk,by omega,by omega⟩,⟨HX4.out⟩⟩
 case rest=>
 obtain ⟨k3,t3,rfl,rfl,HF3,HX5⟩:=hcut
 clear his his2
 obtain ⟨w5,rfl⟩:∃ w9,w9 = wc:=⟨_,rfl⟩
 have hk3:=HF3.out.2.1
 have hl3a:=HF3.out.2.2.1
 have hl3b:=HF3.out.2.2.2
 go_upto_if 154 with fail
 go_cut [21] (fun v21 wc=>v21 = .int .i64 k3 ∧ wc = w5)
 case first=>
  rcases hk3 with e | e
  ·have b1:(k3 == 17) = false:=by simp [e]
   go_wp2_with fail
   go_meet
   case rel=>exact ⟨by rw [e],rfl⟩
  ·have b1:(k3 == 17) = true:=by simp [e]
   go_wp2_with fail
   go_meet
   case rel=>exact ⟨by rw [e],rfl⟩
 case rest=>
 obtain ⟨rfl,rfl⟩:=hcut
 obtain ⟨w5,rfl⟩:∃ w9,w9 = wc:=⟨_,rfl⟩
 have HS5:=HS1.out.below HX5.out
 have hcap:(s.size:Int) ≤ (c:Int):=by have:=HS5.le;omega
 have hne:¬ (c = p.toNat):=by omega
 obtain ⟨v,hv⟩:∃ v,v = s.extract p.toNat t3.toNat:=⟨_,rfl⟩
 have kc:=conv_sub w5 b c s p t3 HS5 h0 hl3a hl3b (c - p.toNat)
 rw [← hv] at kc
 have hf:T = some (k3,p,t3,v):=by rw [HF2.out,HF3.out.1,hv];rfl
 have HF:=Aside0.mk hf
 clear hf hk3 hk hv HS5
 go_wp2_with fail
 refine (PFnReadString.lexer_makeToken.calls k3 p t3 v k3 p t3 v _ rfl).mono ?_
 rintro e w9 ⟨rfl,hb9⟩
 have HX9:Aside0 (Below W1.heap.size W1 w9):=⟨below_then HX5.out HX5.out.size hb9⟩
 clear hb9
 have e0:w9.heap[w.heap.size]? = some (.cells #[.int .i64 0,.int .i64 0,.int .i64 0,.string ⟨#[]⟩] 58 (0,0)):=(HX9.out.block _ (by have:=HZ1.out;omega)).trans HE1.out
 have d0:=(blk_cell e0 0).trans rfl
 have d1:=(blk_cell e0 1).trans rfl
 have d2:=(blk_cell e0 2).trans rfl
 have d3:=(blk_cell e0 3).trans rfl
 have f0:=fun j=>blk_frozen e0 j
 have E0:=Aside0.mk e0
 clear e0 kc
 go_wp2_with fail
 obtain ⟨q0,q1,q2,q3⟩:=res4 E0.out (.int .i64 k3) (.int .i64 p) (.int .i64 t3) (.string v)
 refine bodyPost_ret (v:=.tuple #[tk k3 p t3 v,.nilIface]) (by simp [results,Tryz.results107,go_sem,q0,q1,q2,q3]) rfl ⟨?_,?_⟩
 ·rw [HF.out]
  exact rfl
 ·exact set4_below (HB1.out.trans (HX9.out.mono (by have:=HZ1.out;omega))) (Nat.le_refl _) _ _ _ _
end Go.Proofs.YtbobbognjmofdaaGreatDoor.Lex
end
end
