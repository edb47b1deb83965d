import Derived.Shelf.Strings.Builder1
import Derived.Shelf.Strings.Builder2
import Derived.Shelf.Strings.OnBuilder
import Derived.Shelf.Strings.BuilderF
import Derived.Shelf.Strings.BuilderK
import Derived.Shelf.Utf8.AppendRunePlain
import Derived.Shelf.LaysM
import Derived.Shelf.Bytes.Len
import Derived.Shelf.Bytes.TryGrow
import Derived.Shelf.Bytes.GrowSliceCatch
import Derived.Shelf.Bytes.GrowSlice
import Derived.Shelf.Bytes.String
import Derived.Shelf.Bytes.GrowRow0Kept
import Derived.Shelf.Bytes.GrowRowKept
import Derived.Shelf.Bytes.GrowNilKept
import Derived.Shelf.Bytes.GrowKept
import Derived.Shelf.Bytes.WriteByteKept
import Derived.Shelf.Bytes.ResetKept
import Derived.Shelf.Bytes.WriteKept
import Derived.Shelf.Bytes.BufferK
import Derived.Shelf.Bytes.GrowRow0Own
import Derived.Shelf.Bytes.GrowRowOwn
import Derived.Shelf.Bytes.GrowNilOwn
import Derived.Shelf.Bytes.GrowOwn
import Derived.Shelf.Bytes.WriteAny
import Derived.Ground.MzProg
import Derived.Shelf.Wr.WriteRuneAscii
import Derived.Shelf.Wr.WriteRune
import Derived.Test.YtbobbognjmofdaaGreatDoorProg
import Derived.Test.YtbobbognjmofdaaGreatDoorK09
section
/- The shelf's contracts of bytes.Buffer, strings.Join and what they call, laid at this seat's translation in plain words (by the kit's lay-plain). -/
namespace Go.Proofs
open Go.Shelf
def Tryz.lays156_ren : Go.Shelf.Ren := ⟨fun | 156 => 175 | 165 => 186 | 166 => 187 | 169 => 188 | 240 => 199 | 241 => 200 | 276 => 226 | 277 => 227 | n => n, fun | 31 => 243 | 9 => 9 | 3 => 3 | 4 => 4 | 0 => 0 | 20 => 20 | 72 => 293 | 76 => 184 | 70 => 291 | 37 => 74 | 75 => 60 | 127 => 331 | 164 => 385 | 5 => 5 | 80 => 188 | n => n, fun | n => n⟩
theorem Tryz.lays156 : Go.Proofs.Lays.n156 Tryz.prog Tryz.lays156_ren := {
  mixed := by kernel_rfl
  f156 := Tryz.func175.trans (congrArg some (by kernel_rfl))
  f165 := Tryz.func186.trans (congrArg some (by kernel_rfl))
  f166 := Tryz.func187.trans (congrArg some (by kernel_rfl))
  f169 := Tryz.func188.trans (congrArg some (by kernel_rfl))
  f240 := Tryz.func199.trans (congrArg some (by kernel_rfl))
  f241 := Tryz.func200.trans (congrArg some (by kernel_rfl))
  f276 := Tryz.func226.trans (congrArg some (by kernel_rfl))
  f277 := Tryz.func227.trans (congrArg some (by kernel_rfl))
  t0 := Tryz.underlying0
  a0 := Tryz.isAgg0
  z0 := Tryz.sizeOf0
  v0 := Tryz.zeroValue0
  t3 := Tryz.underlying3
  a3 := Tryz.isAgg3
  z3 := Tryz.sizeOf3
  v3 := Tryz.zeroValue3
  t4 := Tryz.underlying4
  a4 := Tryz.isAgg4
  z4 := Tryz.sizeOf4
  v4 := Tryz.zeroValue4
  t9 := Tryz.underlying9
  a9 := Tryz.isAgg9
  z9 := Tryz.sizeOf9
  v9 := Tryz.zeroValue9
  t20 := Tryz.underlying20
  a20 := Tryz.isAgg20
  z20 := Tryz.sizeOf20
  v20 := Tryz.zeroValue20
  t31 := Tryz.underlying243
  a31 := Tryz.isAgg243
  z31 := Tryz.sizeOf243
  v31 := Tryz.zeroValue243
  t37 := Tryz.underlying74
  a37 := Tryz.isAgg74
  z37 := Tryz.sizeOf74
  v37 := Tryz.zeroValue74
  t70 := Tryz.underlying291
  a70 := Tryz.isAgg291
  z70 := Tryz.sizeOf291
  v70 := Tryz.zeroValue291
  t72 := Tryz.underlying293
  a72 := Tryz.isAgg293
  z72 := Tryz.sizeOf293
  v72 := Tryz.zeroValue293
  t75 := Tryz.underlying60
  a75 := Tryz.isAgg60
  z75 := Tryz.sizeOf60
  v75 := Tryz.zeroValue60
  t76 := Tryz.underlying184
  a76 := Tryz.isAgg184
  z76 := Tryz.sizeOf184
  v76 := Tryz.zeroValue184
  t127 := Tryz.underlying331
  a127 := Tryz.isAgg331
  z127 := Tryz.sizeOf331
  v127 := Tryz.zeroValue331
  t164 := Tryz.underlying385
  a164 := Tryz.isAgg385
  z164 := Tryz.sizeOf385
  v164 := Tryz.zeroValue385 }
theorem Tryz.Builder_Extra_156 : Builder.Extra Tryz.prog Tryz.lays156_ren := {
  sizeBuilder := by kernel_rfl
  liesBuilder := by kernel_rfl
  t5 := Tryz.underlying5
  a5 := Tryz.isAgg5
  z5 := Tryz.sizeOf5
  v5 := Tryz.zeroValue5
  infoByte := by kernel_rfl
  cellsByte := by kernel_rfl
  sizeByte := by kernel_rfl
  neB5 := by decide }
open Go.RowKit in
theorem Tryz.strings_Join_none (a : Option Addr) (c : Nat) (sep : ByteArray) (w : World) :
    Calls Tryz.prog 175 #[.slice a 0 c, .string sep] w fun e w' => e = .returned (.string ⟨#[]⟩) ∧ w' = w := Any.strings_Join_none Tryz.lays156 Tryz.Builder_Extra_156 a c sep w
open Go.RowKit in
theorem Tryz.strings_Join (bk o c : Nat) (xs : List ByteArray) (sep : ByteArray) (w : World) (hcells : ∀ (j : Nat) x, xs[j]? = some x → w.cell? ⟨bk, o + j, none⟩ = some (.string x)) (hbk : bk < w.heap.size) (hN : xs.length ≤ 140737488355328) (hcap : xs.length ≤ c) (hlen : (Lib.join (xs.map (·.data.toList)) sep.data.toList).length ≤ 140737488355328) :
    Calls Tryz.prog 175 #[.slice (some ⟨bk, o, none⟩) xs.length c, .string sep] w fun e w' => e = .returned (.string ⟨(Lib.join (xs.map (·.data.toList)) sep.data.toList).toArray⟩) ∧ Below w.heap.size w w' := Any.strings_Join Tryz.lays156 Tryz.Builder_Extra_156 bk o c xs sep w hcells hbk hN hcap hlen
def Tryz.laysM182_ren : Go.Shelf.Ren := ⟨fun | 182 => 100 | n => n, fun | 130 => 236 | 9 => 9 | 4 => 4 | 0 => 0 | 93 => 179 | 37 => 74 | 3 => 3 | 91 => 177 | 5 => 5 | n => n, fun | n => n⟩
theorem Tryz.laysM182 : Go.Proofs.LaysM.n182 Tryz.prog Tryz.laysM182_ren := {
  mixed := by kernel_rfl
  f182 := Tryz.func100.trans (congrArg some (by kernel_rfl))
  t0 := Tryz.underlying0
  a0 := Tryz.isAgg0
  z0 := Tryz.sizeOf0
  v0 := Tryz.zeroValue0
  t3 := Tryz.underlying3
  a3 := Tryz.isAgg3
  z3 := Tryz.sizeOf3
  v3 := Tryz.zeroValue3
  t4 := Tryz.underlying4
  a4 := Tryz.isAgg4
  z4 := Tryz.sizeOf4
  v4 := Tryz.zeroValue4
  t9 := Tryz.underlying9
  a9 := Tryz.isAgg9
  z9 := Tryz.sizeOf9
  v9 := Tryz.zeroValue9
  t37 := Tryz.underlying74
  a37 := Tryz.isAgg74
  z37 := Tryz.sizeOf74
  v37 := Tryz.zeroValue74
  t93 := Tryz.underlying179
  a93 := Tryz.isAgg179
  z93 := Tryz.sizeOf179
  v93 := Tryz.zeroValue179
  t130 := Tryz.underlying236
  a130 := Tryz.isAgg236
  z130 := Tryz.sizeOf236
  v130 := Tryz.zeroValue236
  t5 := Tryz.underlying5
  a5 := Tryz.isAgg5
  z5 := Tryz.sizeOf5
  v5 := Tryz.zeroValue5
  t91 := Tryz.underlying177
  a91 := Tryz.isAgg177
  z91 := Tryz.sizeOf177
  v91 := Tryz.zeroValue177
  i0 := by kernel_rfl
  i3 := by kernel_rfl
  i4 := by kernel_rfl
  i5 := by kernel_rfl
  i9 := by kernel_rfl
  i37 := by kernel_rfl
  i91 := by kernel_rfl
  i93 := by kernel_rfl
  i130 := by kernel_rfl }
open Go.RowKit in
theorem Tryz.Buffer_String (B b : Nat) (l : List UInt8) (w : World) (h : Lib.IsBuffer 179 5 B b (Lib.byteCells l) w) :
    Calls Tryz.prog 100 #[.pointer (some ⟨b, 0, none⟩)] w fun e w' => e = .returned (.string ⟨l.toArray⟩) ∧ ∃ n, w' = w.drewN n := Any.Buffer_String Tryz.laysM182 B b l w h
def Tryz.laysM180_ren : Go.Shelf.Ren := ⟨fun | 180 => 97 | 251 => 139 | 252 => 140 | 181 => 168 | 184 => 169 | 290 => 170 | 324 => 185 | n => n, fun | 130 => 236 | 37 => 74 | 3 => 3 | 75 => 60 | 0 => 0 | 93 => 179 | 91 => 177 | 131 => 237 | 4 => 4 | 20 => 20 | 5 => 5 | 80 => 188 | 9 => 9 | n => n, fun | 14 => 0 | n => n⟩
theorem Tryz.laysM180 : Go.Proofs.LaysM.n180 Tryz.prog Tryz.laysM180_ren := {
  mixed := by kernel_rfl
  f180 := Tryz.func97.trans (congrArg some (by kernel_rfl))
  f181 := Tryz.func168.trans (congrArg some (by kernel_rfl))
  f184 := Tryz.func169.trans (congrArg some (by kernel_rfl))
  f251 := Tryz.func139.trans (congrArg some (by kernel_rfl))
  f252 := Tryz.func140.trans (congrArg some (by kernel_rfl))
  f290 := Tryz.func170.trans (congrArg some (by kernel_rfl))
  f324 := Tryz.func185.trans (congrArg some (by kernel_rfl))
  t0 := Tryz.underlying0
  a0 := Tryz.isAgg0
  z0 := Tryz.sizeOf0
  v0 := Tryz.zeroValue0
  t3 := Tryz.underlying3
  a3 := Tryz.isAgg3
  z3 := Tryz.sizeOf3
  v3 := Tryz.zeroValue3
  t4 := Tryz.underlying4
  a4 := Tryz.isAgg4
  z4 := Tryz.sizeOf4
  v4 := Tryz.zeroValue4
  t20 := Tryz.underlying20
  a20 := Tryz.isAgg20
  z20 := Tryz.sizeOf20
  v20 := Tryz.zeroValue20
  t37 := Tryz.underlying74
  a37 := Tryz.isAgg74
  z37 := Tryz.sizeOf74
  v37 := Tryz.zeroValue74
  t75 := Tryz.underlying60
  a75 := Tryz.isAgg60
  z75 := Tryz.sizeOf60
  v75 := Tryz.zeroValue60
  t91 := Tryz.underlying177
  a91 := Tryz.isAgg177
  z91 := Tryz.sizeOf177
  v91 := Tryz.zeroValue177
  t93 := Tryz.underlying179
  a93 := Tryz.isAgg179
  z93 := Tryz.sizeOf179
  v93 := Tryz.zeroValue179
  t130 := Tryz.underlying236
  a130 := Tryz.isAgg236
  z130 := Tryz.sizeOf236
  v130 := Tryz.zeroValue236
  t131 := Tryz.underlying237
  a131 := Tryz.isAgg237
  z131 := Tryz.sizeOf237
  v131 := Tryz.zeroValue237
  g14 := by kernel_rfl
  t5 := Tryz.underlying5
  a5 := Tryz.isAgg5
  z5 := Tryz.sizeOf5
  v5 := Tryz.zeroValue5
  t9 := Tryz.underlying9
  a9 := Tryz.isAgg9
  z9 := Tryz.sizeOf9
  v9 := Tryz.zeroValue9
  t80 := Tryz.underlying188
  a80 := Tryz.isAgg188
  z80 := Tryz.sizeOf188
  v80 := Tryz.zeroValue188
  i0 := by kernel_rfl
  i3 := by kernel_rfl
  i4 := by kernel_rfl
  i5 := by kernel_rfl
  i9 := by kernel_rfl
  i20 := by kernel_rfl
  i37 := by kernel_rfl
  i75 := by kernel_rfl
  i80 := by kernel_rfl
  i91 := by kernel_rfl
  i93 := by kernel_rfl
  i130 := by kernel_rfl
  i131 := by kernel_rfl
  m14 := by kernel_rfl }
open Go.RowKit in
theorem Tryz.Buffer_Write_k (B b : Nat) (bs cs : List Value) (a : Addr) (n c : Nat) (w : World) (h : Lib.IsBuffer 179 5 B b bs w) (hBw : B ≤ w.heap.size) (h1 : ∀ v ∈ bs, v.oneCell' = true) (hn : cs.length = n) (haB : a.block < B) (hsrc : ∀ j v, cs[j]? = some v → w.cell? (a.add j) = some v) (h1c : ∀ v ∈ cs, v.oneCell' = true) (hlim : bs.length + n ≤ 140737488355328) :
    Calls Tryz.prog 97 #[.pointer (some ⟨b, 0, none⟩), .slice (some a) n c] w fun e w' => e = .returned (.tuple #[.int .i64 n, .nilIface]) ∧ Lib.IsBuffer 179 5 B b (bs ++ cs) w' ∧ Below B w w' ∧ Lib.OthersKept 5 (some b) w w' := Any.Buffer_Write_k Tryz.laysM180 B b bs cs a n c w h hBw h1 hn haB hsrc h1c hlim
def Tryz.laysWr5_ren : Go.Shelf.Ren := ⟨fun | 5 => 98 | 7 => 141 | 8 => 139 | 9 => 140 | 10 => 142 | 11 => 168 | 12 => 169 | 13 => 170 | 14 => 171 | 15 => 185 | n => n, fun | 34 => 236 | 21 => 21 | 3 => 3 | 28 => 60 | 35 => 239 | 4 => 4 | 5 => 5 | 0 => 0 | 26 => 179 | 24 => 177 | 37 => 237 | 22 => 74 | 43 => 113 | 20 => 20 | 31 => 188 | 9 => 9 | n => n, fun | 0 => 0 | n => n⟩
theorem Tryz.laysWr5 : Go.Proofs.LaysWr.n5 Tryz.prog Tryz.laysWr5_ren := {
  mixed := by kernel_rfl
  f5 := Tryz.func98.trans (congrArg some (by kernel_rfl))
  f7 := Tryz.func141.trans (congrArg some (by kernel_rfl))
  f8 := Tryz.func139.trans (congrArg some (by kernel_rfl))
  f9 := Tryz.func140.trans (congrArg some (by kernel_rfl))
  f10 := Tryz.func142.trans (congrArg some (by kernel_rfl))
  f11 := Tryz.func168.trans (congrArg some (by kernel_rfl))
  f12 := Tryz.func169.trans (congrArg some (by kernel_rfl))
  f13 := Tryz.func170.trans (congrArg some (by kernel_rfl))
  f14 := Tryz.func171.trans (congrArg some (by kernel_rfl))
  f15 := Tryz.func185.trans (congrArg some (by kernel_rfl))
  t0 := Tryz.underlying0
  a0 := Tryz.isAgg0
  z0 := Tryz.sizeOf0
  v0 := Tryz.zeroValue0
  i0 := by kernel_rfl
  t3 := Tryz.underlying3
  a3 := Tryz.isAgg3
  z3 := Tryz.sizeOf3
  v3 := Tryz.zeroValue3
  i3 := by kernel_rfl
  t4 := Tryz.underlying4
  a4 := Tryz.isAgg4
  z4 := Tryz.sizeOf4
  v4 := Tryz.zeroValue4
  i4 := by kernel_rfl
  t5 := Tryz.underlying5
  a5 := Tryz.isAgg5
  z5 := Tryz.sizeOf5
  v5 := Tryz.zeroValue5
  i5 := by kernel_rfl
  t9 := Tryz.underlying9
  a9 := Tryz.isAgg9
  z9 := Tryz.sizeOf9
  v9 := Tryz.zeroValue9
  i9 := by kernel_rfl
  t20 := Tryz.underlying20
  a20 := Tryz.isAgg20
  z20 := Tryz.sizeOf20
  v20 := Tryz.zeroValue20
  i20 := by kernel_rfl
  t21 := Tryz.underlying21
  a21 := Tryz.isAgg21
  z21 := Tryz.sizeOf21
  v21 := Tryz.zeroValue21
  i21 := by kernel_rfl
  t22 := Tryz.underlying74
  a22 := Tryz.isAgg74
  z22 := Tryz.sizeOf74
  v22 := Tryz.zeroValue74
  i22 := by kernel_rfl
  t24 := Tryz.underlying177
  a24 := Tryz.isAgg177
  z24 := Tryz.sizeOf177
  v24 := Tryz.zeroValue177
  i24 := by kernel_rfl
  t26 := Tryz.underlying179
  a26 := Tryz.isAgg179
  z26 := Tryz.sizeOf179
  v26 := Tryz.zeroValue179
  i26 := by kernel_rfl
  t28 := Tryz.underlying60
  a28 := Tryz.isAgg60
  z28 := Tryz.sizeOf60
  v28 := Tryz.zeroValue60
  i28 := by kernel_rfl
  t31 := Tryz.underlying188
  a31 := Tryz.isAgg188
  z31 := Tryz.sizeOf188
  v31 := Tryz.zeroValue188
  i31 := by kernel_rfl
  t34 := Tryz.underlying236
  a34 := Tryz.isAgg236
  z34 := Tryz.sizeOf236
  v34 := Tryz.zeroValue236
  i34 := by kernel_rfl
  t35 := Tryz.underlying239
  a35 := Tryz.isAgg239
  z35 := Tryz.sizeOf239
  v35 := Tryz.zeroValue239
  i35 := by kernel_rfl
  t37 := Tryz.underlying237
  a37 := Tryz.isAgg237
  z37 := Tryz.sizeOf237
  v37 := Tryz.zeroValue237
  i37 := by kernel_rfl
  t43 := Tryz.underlying113
  a43 := Tryz.isAgg113
  z43 := Tryz.sizeOf113
  v43 := Tryz.zeroValue113
  i43 := by kernel_rfl
  g0 := by kernel_rfl
  m0 := by kernel_rfl }
open Go.RowKit in
theorem Tryz.Buffer_WriteRune_k (B b : Nat) (bs : List Value) (r : Int) (hr0 : -2147483648 ≤ r) (hr1 : r ≤ 2147483647) (w : World) (h : Lib.IsBuffer 179 5 B b bs w) (hBw : B ≤ w.heap.size) (h1 : ∀ v ∈ bs, v.oneCell' = true) (hlim : bs.length + 4 ≤ 140737488355328) :
    Calls Tryz.prog 98 #[.pointer (some ⟨b, 0, none⟩), .int .i32 r] w fun e w' => e = .returned (.tuple #[.int .i64 (Lib.runeCells r).length, .nilIface]) ∧ Lib.IsBuffer 179 5 B b (bs ++ Lib.runeCells r) w' ∧ Below B w w' ∧ Lib.OthersKept 5 (some b) w w' := Any.Buffer_WriteRune_k Tryz.laysWr5 B b bs r hr0 hr1 w h hBw h1 hlim
end Go.Proofs
end
section
-- PRINTED BY print.sh 35421559b90ae4d0a3588c463048766b98c2df88dd9212a6774a882060cdf62d: not written by this session
namespace Go.Proofs.YtbobbognjmofdaaGreatDoor.PFnReadString
open Go.RowKit Go.Proofs.YtbobbognjmofdaaGreatDoorW.PrintWords Go.Proofs.YtbobbognjmofdaaGreatDoorW.PrintLast Go.Proofs.YtbobbognjmofdaaGreatDoorW.PrintMore
attribute [local go_sem] max2_int min2_int max_two min_two   -- for this text's walks alone
set_option linter.unusedVariables false
set_option linter.unusedSimpArgs false

theorem eqA24 (d : Nat) (w : World) (x0 y0 : Int) (x1 y1 : ByteArray) (x2 y2 : Int) (x3 y3 : Int) :
    (Op.equalIn (d + 2) 24 (.agg #[.int .i64 x0, .string x1, .int .i64 x2, .int .i64 x3]) (.agg #[.int .i64 y0, .string y1, .int .i64 y2, .int .i64 y3])).run Tryz.prog w = .ok (x0 == y0 && (x1.toList == y1.toList && (x2 == y2 && (x3 == y3)))) w := by
  refine eqA_of Tryz.underlying24 (by kernel_rfl) ?_
  refine eqf_cons (by rfl) (by go_simp; rfl) (by go_simp; rfl) (by go_simp) ?_
  refine eqf_cons (by rfl) (by go_simp; rfl) (by go_simp; rfl) (by go_simp) ?_
  refine eqf_cons (by rfl) (by go_simp; rfl) (by go_simp; rfl) (by go_simp) ?_
  exact eqf_last (by rfl) (by go_simp; rfl) (by go_simp; rfl) (by go_simp)
end Go.Proofs.YtbobbognjmofdaaGreatDoor.PFnReadString
end
section
-- PRINTED BY print.sh 35421559b90ae4d0a3588c463048766b98c2df88dd9212a6774a882060cdf62d: not written by this session
namespace Go.Proofs.YtbobbognjmofdaaGreatDoor.PFnReadString
open Go.RowKit Go.Proofs.YtbobbognjmofdaaGreatDoorW.PrintWords Go.Proofs.YtbobbognjmofdaaGreatDoorW.PrintLast Go.Proofs.YtbobbognjmofdaaGreatDoorW.PrintMore
attribute [local go_sem] max2_int min2_int max_two min_two   -- for this text's walks alone
set_option linter.unusedVariables false
set_option linter.unusedSimpArgs false

attribute [local go_sem high] eqA24
/-! ### lexer_char2hex: function 143 -/
mutual
def lexer_char2hex.j0 : Nat → Int → Bool → Option (Int)
  | 0, _, _ => none
  | k + 1, x0, x8 => if x8 = true then (some (wrap64 ((wrap64 (x0)) - 48))) else (if x0 ≥ 65 then (lexer_char2hex.j1 k x0 (decide (x0 ≤ 70))) else (lexer_char2hex.j1 k x0 false))
def lexer_char2hex.j1 : Nat → Int → Bool → Option (Int)
  | 0, _, _ => none
  | k + 1, x0, x17 => if x17 = true then (some (wrap64 ((wrap64 (x0)) - 55))) else (if x0 ≥ 97 then (if x0 ≤ 102 then (some (wrap64 ((wrap64 (x0)) - 87))) else (some (-1))) else (some (-1)))
end
def lexer_char2hex.f (k : Nat) (a0 : Int) : Option (Int) := if a0 ≥ 48 then (lexer_char2hex.j0 k a0 (decide (a0 ≤ 57))) else (lexer_char2hex.j0 k a0 false)
set_option maxHeartbeats 8000000 in
set_option maxRecDepth 100000 in
theorem lexer_char2hex.calls (k : Nat) (a0 : Int) (r : Int) (w : World) (h : lexer_char2hex.f k a0 = some r) :
    Calls Tryz.prog 143 #[.int .i32 a0] w fun e w' => e = .returned (.int .i64 r) ∧ Drawn0 w w' := by
  have H : (if a0 ≥ 48 then (lexer_char2hex.j0 k a0 (decide (a0 ≤ 57))) else (lexer_char2hex.j0 k a0 false)) = some r := h
  clear h
  have HC2 := Aside0.mk H
  clear H
  go_enter Tryz.func143, Tryz.ntmps143
  go_upto_region 1 with (fail)
  go_cut [8] (fun v8 wc => ∃ (kq : Nat) (x8_1 : Bool), v8 = .bool x8_1 ∧ Aside0 (lexer_char2hex.j0 kq a0 x8_1 = some r) ∧ Aside0 (kq ≤ k) ∧ Drawn0 w wc)
  case first =>
    have H := HC2.out
    clear HC2
    by_cases c3 : a0 ≥ 48
    · rw [if_pos c3] at H
      have c3b0 : decide (48 ≤ a0) = true := decide_eq_true c3
      clear c3
      (first | rw [c3b0] | (simp only [i64_w, i32_w]; rw [c3b0]) | skip)
      have H' := Aside0.mk H
      clear H
      go_wp2
      go_meet
      case rel => exact ⟨_, (decide (a0 ≤ 57)), (by first | rfl | (simp; done) | (simp [*]; done)), H', ⟨by first | omega | exact Nat.le_refl _⟩, by repeat (first | exact Drawn0.refl _ | apply Drawn0.step)⟩
    · rw [if_neg c3] at H
      have c3b0 : decide (48 ≤ a0) = false := decide_eq_false c3
      clear c3
      (first | rw [c3b0] | (simp only [i64_w, i32_w]; rw [c3b0]) | skip)
      have H' := Aside0.mk H
      clear H
      go_wp2
      go_meet
      case rel => exact ⟨_, (false), (by first | rfl | (simp; done) | (simp [*]; done)), H', ⟨by first | omega | exact Nat.le_refl _⟩, by repeat (first | exact Drawn0.refl _ | apply Drawn0.step)⟩
  case rest =>
    clear HC2
    try clear c1
    try clear p2
    try clear c3
    try clear c3b0
    obtain ⟨kq, x8_1, rfl, HA, HJ1, ⟨mc1, rfl⟩⟩ := hcut
    cases kq with
    | zero => exact absurd HA.out (by simp [lexer_char2hex.j0])
    | succ kj1 =>
      have H := HA.out
      clear HA
      simp only [lexer_char2hex.j0] at H
      by_cases c4 : x8_1 = true
      · subst c4
        have H1 : (some (wrap64 ((wrap64 (a0)) - 48))) = some r := by rw [if_pos rfl] at H; exact H
        clear H
        have H := H1
        clear H1
        obtain rfl := Option.some.inj H
        go_wp2
        go_ret
        exact ⟨by first | rfl | (simp; done) | (simp [*]; done), by repeat (first | exact Drawn0.refl _ | apply Drawn0.step)⟩
      · replace c4 := Bool.eq_false_iff.mpr c4
        subst c4
        have H1 : (if a0 ≥ 65 then (lexer_char2hex.j1 kj1 a0 (decide (a0 ≤ 70))) else (lexer_char2hex.j1 kj1 a0 false)) = some r := by rw [if_neg (show ¬ (false = true) by decide)] at H; exact H
        clear H
        have H := H1
        clear H1
        have HC5 := Aside0.mk H
        clear H
        go_upto_region 3 with (fail)
        go_cut [17] (fun v17 wc => ∃ (kq : Nat) (x17_4 : Bool), v17 = .bool x17_4 ∧ Aside0 (lexer_char2hex.j1 kq a0 x17_4 = some r) ∧ Aside0 (kq ≤ kj1) ∧ Drawn0 w wc)
        case first =>
          have H := HC5.out
          clear HC5
          by_cases c6 : a0 ≥ 65
          · rw [if_pos c6] at H
            have c6b0 : decide (65 ≤ a0) = true := decide_eq_true c6
            clear c6
            (first | rw [c6b0] | (simp only [i64_w, i32_w]; rw [c6b0]) | skip)
            have H' := Aside0.mk H
            clear H
            go_wp2
            go_meet
            case rel => exact ⟨_, (decide (a0 ≤ 70)), (by first | rfl | (simp; done) | (simp [*]; done)), H', ⟨by have := HJ1.out; first | omega | exact Nat.le_refl _⟩, by repeat (first | exact Drawn0.refl _ | apply Drawn0.step)⟩
          · rw [if_neg c6] at H
            have c6b0 : decide (65 ≤ a0) = false := decide_eq_false c6
            clear c6
            (first | rw [c6b0] | (simp only [i64_w, i32_w]; rw [c6b0]) | skip)
            have H' := Aside0.mk H
            clear H
            go_wp2
            go_meet
            case rel => exact ⟨_, (false), (by first | rfl | (simp; done) | (simp [*]; done)), H', ⟨by have := HJ1.out; first | omega | exact Nat.le_refl _⟩, by repeat (first | exact Drawn0.refl _ | apply Drawn0.step)⟩
        case rest =>
          clear HC5
          try clear c1
          try clear p2
          try clear c3
          try clear c3b0
          try clear c4
          try clear c6
          try clear c6b0
          try clear p6
          try clear p2
          obtain ⟨kq, x17_4, rfl, HA, HJ4, ⟨mc4, rfl⟩⟩ := hcut
          cases kq with
          | zero => exact absurd HA.out (by simp [lexer_char2hex.j1])
          | succ kj4 =>
            have H := HA.out
            clear HA
            simp only [lexer_char2hex.j1] at H
            by_cases c7 : x17_4 = true
            · subst c7
              have H1 : (some (wrap64 ((wrap64 (a0)) - 55))) = some r := by rw [if_pos rfl] at H; exact H
              clear H
              have H := H1
              clear H1
              obtain rfl := Option.some.inj H
              go_wp2
              go_ret
              exact ⟨by first | rfl | (simp; done) | (simp [*]; done), by repeat (first | exact Drawn0.refl _ | apply Drawn0.step)⟩
            · replace c7 := Bool.eq_false_iff.mpr c7
              subst c7
              have H1 : (if a0 ≥ 97 then (if a0 ≤ 102 then (some (wrap64 ((wrap64 (a0)) - 87))) else (some (-1))) else (some (-1))) = some r := by rw [if_neg (show ¬ (false = true) by decide)] at H; exact H
              clear H
              have H := H1
              clear H1
              by_cases c8 : a0 ≥ 97
              · rw [if_pos c8] at H
                have c8b0 : decide (97 ≤ a0) = true := decide_eq_true c8
                clear c8
                by_cases c9 : a0 ≤ 102
                · rw [if_pos c9] at H
                  have c9b0 : decide (a0 ≤ 102) = true := decide_eq_true c9
                  clear c9
                  obtain rfl := Option.some.inj H
                  go_wp2
                  go_ret
                  exact ⟨by first | rfl | (simp; done) | (simp [*]; done), by repeat (first | exact Drawn0.refl _ | apply Drawn0.step)⟩
                · rw [if_neg c9] at H
                  have c9b0 : decide (a0 ≤ 102) = false := decide_eq_false c9
                  clear c9
                  obtain rfl := Option.some.inj H
                  go_wp2
                  go_ret
                  exact ⟨by first | rfl | (simp; done) | (simp [*]; done), by repeat (first | exact Drawn0.refl _ | apply Drawn0.step)⟩
              · rw [if_neg c8] at H
                have c8b0 : decide (97 ≤ a0) = false := decide_eq_false c8
                clear c8
                obtain rfl := Option.some.inj H
                go_wp2
                go_ret
                exact ⟨by first | rfl | (simp; done) | (simp [*]; done), by repeat (first | exact Drawn0.refl _ | apply Drawn0.step)⟩

/-! ### lexer_uniCharCode: function 99 -/
def lexer_uniCharCode.f (k : Nat) (a0 : Int) (a1 : Int) (a2 : Int) (a3 : Int) : Option (Int) := (lexer_char2hex.f k a0).bind fun t174 => ((lexer_char2hex.f k a1).bind fun t175 => ((lexer_char2hex.f k a2).bind fun t176 => ((lexer_char2hex.f k a3).bind fun t177 => (some (wrap32 (Go.bits .or .i64 (Go.bits .or .i64 (Go.bits .or .i64 (wrap64 (t174 * 4096)) (wrap64 (t175 * 256))) (wrap64 (t176 * 16))) t177))))))
set_option maxHeartbeats 8000000 in
set_option maxRecDepth 100000 in
theorem lexer_uniCharCode.calls (k : Nat) (a0 : Int) (a1 : Int) (a2 : Int) (a3 : Int) (r : Int) (w : World) (h : lexer_uniCharCode.f k a0 a1 a2 a3 = some r) :
    Calls Tryz.prog 99 #[.int .i32 a0, .int .i32 a1, .int .i32 a2, .int .i32 a3] w fun e w' => e = .returned (.int .i32 r) ∧ Drawn0 w w' := by
  have H : ((lexer_char2hex.f k a0).bind fun t174 => ((lexer_char2hex.f k a1).bind fun t175 => ((lexer_char2hex.f k a2).bind fun t176 => ((lexer_char2hex.f k a3).bind fun t177 => (some (wrap32 (Go.bits .or .i64 (Go.bits .or .i64 (Go.bits .or .i64 (wrap64 (t174 * 4096)) (wrap64 (t175 * 256))) (wrap64 (t176 * 16))) t177))))))) = some r := h
  clear h
  replace H := Option.bind_eq_some_iff.mp H
  obtain ⟨t174, A50, H⟩ := H
  replace H : ((lexer_char2hex.f k a1).bind fun t175 => ((lexer_char2hex.f k a2).bind fun t176 => ((lexer_char2hex.f k a3).bind fun t177 => (some (wrap32 (Go.bits .or .i64 (Go.bits .or .i64 (Go.bits .or .i64 (wrap64 (t174 * 4096)) (wrap64 (t175 * 256))) (wrap64 (t176 * 16))) t177)))))) = some r := H
  have A5 := Aside0.mk A50
  clear A50
  replace H := Option.bind_eq_some_iff.mp H
  obtain ⟨t175, A60, H⟩ := H
  replace H : ((lexer_char2hex.f k a2).bind fun t176 => ((lexer_char2hex.f k a3).bind fun t177 => (some (wrap32 (Go.bits .or .i64 (Go.bits .or .i64 (Go.bits .or .i64 (wrap64 (t174 * 4096)) (wrap64 (t175 * 256))) (wrap64 (t176 * 16))) t177))))) = some r := H
  have A6 := Aside0.mk A60
  clear A60
  replace H := Option.bind_eq_some_iff.mp H
  obtain ⟨t176, A70, H⟩ := H
  replace H : ((lexer_char2hex.f k a3).bind fun t177 => (some (wrap32 (Go.bits .or .i64 (Go.bits .or .i64 (Go.bits .or .i64 (wrap64 (t174 * 4096)) (wrap64 (t175 * 256))) (wrap64 (t176 * 16))) t177)))) = some r := H
  have A7 := Aside0.mk A70
  clear A70
  replace H := Option.bind_eq_some_iff.mp H
  obtain ⟨t177, A80, H⟩ := H
  replace H : (some (wrap32 (Go.bits .or .i64 (Go.bits .or .i64 (Go.bits .or .i64 (wrap64 (t174 * 4096)) (wrap64 (t175 * 256))) (wrap64 (t176 * 16))) t177))) = some r := H
  have A8 := Aside0.mk A80
  clear A80
  obtain rfl := Option.some.inj H
  go_enter Tryz.func99, Tryz.ntmps99
  go_wp2_with (first | ((with_reducible refine gate_callee (f := 143) rfl ?_); refine goesL_ (some 10) rfl rfl Tryz.func143 (by kernel_rfl) rfl #[.int .i32 a0] rfl (by (try simp only [List.map_toArray, List.map_cons, List.map_nil]); first | done | rfl | (simp only [List.length_drop, List.length_take]; rfl)) ?_; (with_reducible refine (lexer_char2hex.calls k a0 t174 _ A5.out).mono ?_); rintro e w' ⟨rfl, ⟨nd, rfl⟩⟩; refine ⟨_, rfl, ?_⟩) | ((with_reducible refine gate_callee (f := 143) rfl ?_); refine goesL_ (some 13) rfl rfl Tryz.func143 (by kernel_rfl) rfl #[.int .i32 a1] rfl (by (try simp only [List.map_toArray, List.map_cons, List.map_nil]); first | done | rfl | (simp only [List.length_drop, List.length_take]; rfl)) ?_; (with_reducible refine (lexer_char2hex.calls k a1 t175 _ A6.out).mono ?_); rintro e w' ⟨rfl, ⟨nd, rfl⟩⟩; refine ⟨_, rfl, ?_⟩) | ((with_reducible refine gate_callee (f := 143) rfl ?_); refine goesL_ (some 17) rfl rfl Tryz.func143 (by kernel_rfl) rfl #[.int .i32 a2] rfl (by (try simp only [List.map_toArray, List.map_cons, List.map_nil]); first | done | rfl | (simp only [List.length_drop, List.length_take]; rfl)) ?_; (with_reducible refine (lexer_char2hex.calls k a2 t176 _ A7.out).mono ?_); rintro e w' ⟨rfl, ⟨nd, rfl⟩⟩; refine ⟨_, rfl, ?_⟩) | ((with_reducible refine gate_callee (f := 143) rfl ?_); refine goesL_ (some 21) rfl rfl Tryz.func143 (by kernel_rfl) rfl #[.int .i32 a3] rfl (by (try simp only [List.map_toArray, List.map_cons, List.map_nil]); first | done | rfl | (simp only [List.length_drop, List.length_take]; rfl)) ?_; (with_reducible refine (lexer_char2hex.calls k a3 t177 _ A8.out).mono ?_); rintro e w' ⟨rfl, ⟨nd, rfl⟩⟩; refine ⟨_, rfl, ?_⟩))
  go_ret
  exact ⟨by first | rfl | (simp; done) | (simp [*]; done), by repeat (first | exact Drawn0.refl _ | apply Drawn0.step)⟩

-- NOT PRINTED: function 100 (bytes_Buffer_String)

/-! ### lexer_makeToken: function 101 -/
def lexer_makeToken.f (a0 : Int) (a1 : Int) (a2 : Int) (a3 : ByteArray) : Option (Int × Int × Int × ByteArray) := some (a0, a1, a2, a3)
set_option maxHeartbeats 8000000 in
set_option maxRecDepth 100000 in
theorem lexer_makeToken.calls (a0 : Int) (a1 : Int) (a2 : Int) (a3 : ByteArray) (r1 : Int) (r2 : Int) (r3 : Int) (r4 : ByteArray) (w : World) (h : lexer_makeToken.f a0 a1 a2 a3 = some (r1, r2, r3, r4)) :
    Calls Tryz.prog 101 #[.int .i64 a0, .int .i64 a1, .int .i64 a2, .string a3] w fun e w' => e = .returned (.agg #[.int .i64 r1, .int .i64 r2, .int .i64 r3, .string r4]) ∧ Below w.heap.size w w' := by
  have hu58 := Tryz.underlying58
  have HB := Aside0.mk (Below.refl w.heap.size w)
  have H : (some (a0, a1, a2, a3)) = some (r1, r2, r3, r4) := h
  clear h
  simp only [Option.some.injEq, Prod.mk.injEq] at H
  obtain ⟨rfl, rfl, rfl, rfl⟩ := H
  go_enter Tryz.func101, Tryz.ntmps101
  go_wp2_with (first | ((with_reducible refine gate_dst (N := 8) rfl ?_); refine box_event ?hg (N := 8) ?hd (cs := #[.int .i64 0, .int .i64 0, .int .i64 0, .string (⟨#[]⟩ : ByteArray)]) (t := 58) ?hr ?_; (case hd => rfl); (case hg => rfl); (case hr => first | (go_simp; done) | (go_simp; rfl)); intro gb178 hg w5 hbox hb; have n0_ := Aside0.mk (below_step (by repeat (first | (with_reducible first | exact HB.out | apply below_alloc | apply pw_below_drewN | apply below_drew1) | exact HB.out)) hb); have n1_ := Aside0.mk (hbox); have n2_ := Aside0.mk ((by rw [hg]; exact (below_size (by repeat (first | (with_reducible first | exact HB.out | apply below_alloc | apply pw_below_drewN | apply below_drew1) | exact HB.out))) : w.heap.size ≤ gb178)); have n3_ := Aside0.mk ((by rw [hg]; exact (below_size (by repeat (first | (with_reducible first | exact HB.out | apply below_alloc | apply pw_below_drewN | apply below_drew1) | exact HB.out))) : w.heap.size ≤ gb178)); clear HB; have HB := n0_; have BK178 := n1_; have GW178 := n2_; have GE178 := n3_; clear n0_ n1_ n2_ n3_; clear hb hbox hg; have hcz6_0 : w5.cell? ⟨gb178, 0, none⟩ = some (.int .i64 0) := (blk_cell BK178.out 0).trans rfl; have hcz6_1 : w5.cell? ⟨gb178, 1, none⟩ = some (.int .i64 0) := (blk_cell BK178.out 1).trans rfl; have hcz6_2 : w5.cell? ⟨gb178, 2, none⟩ = some (.int .i64 0) := (blk_cell BK178.out 2).trans rfl; have hcz6_3 : w5.cell? ⟨gb178, 3, none⟩ = some (.string (⟨#[]⟩ : ByteArray)) := (blk_cell BK178.out 3).trans rfl; have hfz6_0 := blk_frozen BK178.out 0; have hfz6_1 := blk_frozen BK178.out 1; have hfz6_2 := blk_frozen BK178.out 2; have hfz6_3 := blk_frozen BK178.out 3))
  refine bodyPost_ret (results_cell_row rfl _ _ gb178 58 #[.int .i64 a0, .int .i64 a1, .int .i64 a2, .string a3] (0, 0) _ rfl (by (with_reducible repeat (first | refine blk_drewN ?_ _ | refine blk_drew ?_ | refine blk_alloc ?_ _)); refine blk_put (cs := #[.int .i64 a0, .int .i64 a1, .int .i64 a2, .string (⟨#[]⟩ : ByteArray)]) ?_ 3 _ rfl; (with_reducible repeat (first | refine blk_drewN ?_ _ | refine blk_drew ?_ | refine blk_alloc ?_ _)); refine blk_put (cs := #[.int .i64 a0, .int .i64 a1, .int .i64 0, .string (⟨#[]⟩ : ByteArray)]) ?_ 2 _ rfl; (with_reducible repeat (first | refine blk_drewN ?_ _ | refine blk_drew ?_ | refine blk_alloc ?_ _)); refine blk_put (cs := #[.int .i64 a0, .int .i64 0, .int .i64 0, .string (⟨#[]⟩ : ByteArray)]) ?_ 1 _ rfl; (with_reducible repeat (first | refine blk_drewN ?_ _ | refine blk_drew ?_ | refine blk_alloc ?_ _)); refine blk_put (cs := #[.int .i64 0, .int .i64 0, .int .i64 0, .string (⟨#[]⟩ : ByteArray)]) ?_ 0 _ rfl; (with_reducible repeat (first | refine blk_drewN ?_ _ | refine blk_drew ?_ | refine blk_alloc ?_ _)); exact BK178.out) Tryz.underlying58 rfl (by kernel_rfl)) rfl ?_
  exact ⟨by first | rfl | (simp [errW_none, errW_some] <;> rfl) | (simp [*, errW_none, errW_some] <;> rfl), by repeat (first | (with_reducible first | exact HB.out | apply below_alloc | apply pw_below_drewN | apply below_drew1 | refine below_set ?_ GE178.out) | exact HB.out)⟩

-- NOT PRINTED: function 57 (lexer_readString)

-- NOT PRINTED: function 34 (lexer_ReadString)

/-! ### impl_token: function 35 -/
def impl_token.f (a0_0 : Int) (a0_1 : Int) (a0_2 : Int) (a0_3 : ByteArray) : Option (Int × ByteArray × Int × Int) := some (a0_0, a0_3, a0_1, a0_2)
set_option maxHeartbeats 8000000 in
set_option maxRecDepth 100000 in
theorem impl_token.calls (a0_0 : Int) (a0_1 : Int) (a0_2 : Int) (a0_3 : ByteArray) (r1 : Int) (r2 : ByteArray) (r3 : Int) (r4 : Int) (w : World) (h : impl_token.f a0_0 a0_1 a0_2 a0_3 = some (r1, r2, r3, r4)) :
    Calls Tryz.prog 35 #[.agg #[.int .i64 a0_0, .int .i64 a0_1, .int .i64 a0_2, .string a0_3]] w fun e w' => e = .returned (.agg #[.int .i64 r1, .string r2, .int .i64 r3, .int .i64 r4]) ∧ Below w.heap.size w w' := by
  have hu58 := Tryz.underlying58
  have hu24 := Tryz.underlying24
  have HB := Aside0.mk (Below.refl w.heap.size w)
  have H : (some (a0_0, a0_3, a0_1, a0_2)) = some (r1, r2, r3, r4) := h
  clear h
  simp only [Option.some.injEq, Prod.mk.injEq] at H
  obtain ⟨rfl, rfl, rfl, rfl⟩ := H
  go_enter Tryz.func35, Tryz.ntmps35
  go_wp2_with (first | ((with_reducible refine gate_dst (N := 1) rfl ?_); refine box_event ?hg (N := 1) ?hd (cs := #[.int .i64 a0_0, .int .i64 a0_1, .int .i64 a0_2, .string a0_3]) (t := 58) ?hr ?_; (case hd => rfl); (case hg => rfl); (case hr => first | (go_simp; done) | (go_simp; rfl)); intro gb182 hg w2 hbox hb; have n0_ := Aside0.mk (below_step (by repeat (first | (with_reducible first | exact HB.out | apply below_alloc | apply pw_below_drewN | apply below_drew1) | exact HB.out)) hb); have n1_ := Aside0.mk (hbox); have n2_ := Aside0.mk ((by rw [hg]; exact (below_size (by repeat (first | (with_reducible first | exact HB.out | apply below_alloc | apply pw_below_drewN | apply below_drew1) | exact HB.out))) : w.heap.size ≤ gb182)); have n3_ := Aside0.mk ((by rw [hg]; exact (below_size (by repeat (first | (with_reducible first | exact HB.out | apply below_alloc | apply pw_below_drewN | apply below_drew1) | exact HB.out))) : w.heap.size ≤ gb182)); clear HB; have HB := n0_; have BK182 := n1_; have GW182 := n2_; have GE182 := n3_; clear n0_ n1_ n2_ n3_; clear hb hbox hg) | ((with_reducible refine gate_dst (N := 2) rfl ?_); refine box_event ?hg (N := 2) ?hd (cs := #[.int .i64 0, .string (⟨#[]⟩ : ByteArray), .int .i64 0, .int .i64 0]) (t := 24) ?hr ?_; (case hd => rfl); (case hg => rfl); (case hr => first | (go_simp; done) | (go_simp; rfl)); intro gb183 hg w3 hbox hb; have n0_ := Aside0.mk (blk_below (g := gb182) (o := .cells #[.int .i64 a0_0, .int .i64 a0_1, .int .i64 a0_2, .string a0_3] 58 (0, 0)) (by (with_reducible repeat (first | refine blk_drewN ?_ _ | refine blk_drew ?_ | refine blk_alloc ?_ _)); exact BK182.out) hb); have n1_ := Aside0.mk (below_step (by repeat (first | (with_reducible first | exact HB.out | apply below_alloc | apply pw_below_drewN | apply below_drew1 | refine below_set ?_ GE182.out) | exact HB.out)) hb); have n2_ := Aside0.mk (hbox); have n3_ := Aside0.mk ((by rw [hg]; exact (below_size (by repeat (first | (with_reducible first | exact HB.out | apply below_alloc | apply pw_below_drewN | apply below_drew1 | refine below_set ?_ GE182.out) | exact HB.out))) : w.heap.size ≤ gb183)); have n4_ := Aside0.mk ((by rw [hg]; exact (below_size (by repeat (first | (with_reducible first | exact HB.out | apply below_alloc | apply pw_below_drewN | apply below_drew1 | refine below_set ?_ GE182.out) | exact HB.out))) : w.heap.size ≤ gb183)); have n5_ := Aside0.mk ((by rw [hg]; exact Nat.ne_of_lt (blk_lt (g := gb182) (o := .cells #[.int .i64 a0_0, .int .i64 a0_1, .int .i64 a0_2, .string a0_3] 58 (0, 0)) (by (with_reducible repeat (first | refine blk_drewN ?_ _ | refine blk_drew ?_ | refine blk_alloc ?_ _)); exact BK182.out)) : gb182 ≠ gb183)); have n6_ := Aside0.mk ((by rw [hg]; exact Nat.ne_of_gt (blk_lt (g := gb182) (o := .cells #[.int .i64 a0_0, .int .i64 a0_1, .int .i64 a0_2, .string a0_3] 58 (0, 0)) (by (with_reducible repeat (first | refine blk_drewN ?_ _ | refine blk_drew ?_ | refine blk_alloc ?_ _)); exact BK182.out)) : gb183 ≠ gb182)); clear BK182; clear HB; have BK182 := n0_; have HB := n1_; have BK183 := n2_; have GW183 := n3_; have GE183 := n4_; have NB182_183 := n5_; have NB183_182 := n6_; clear n0_ n1_ n2_ n3_ n4_ n5_ n6_; clear hb hbox hg; have hnb4 := NB182_183.out; have hnc4 := NB183_182.out; have hcz5_0 : w3.cell? ⟨gb182, 0, none⟩ = some (.int .i64 a0_0) := (blk_cell BK182.out 0).trans rfl; have hcz5_1 : w3.cell? ⟨gb182, 1, none⟩ = some (.int .i64 a0_1) := (blk_cell BK182.out 1).trans rfl; have hcz5_2 : w3.cell? ⟨gb182, 2, none⟩ = some (.int .i64 a0_2) := (blk_cell BK182.out 2).trans rfl; have hcz5_3 : w3.cell? ⟨gb182, 3, none⟩ = some (.string a0_3) := (blk_cell BK182.out 3).trans rfl; have hfz5_0 := blk_frozen BK182.out 0; have hfz5_1 := blk_frozen BK182.out 1; have hfz5_2 := blk_frozen BK182.out 2; have hfz5_3 := blk_frozen BK182.out 3; have hcz6_0 : w3.cell? ⟨gb183, 0, none⟩ = some (.int .i64 0) := (blk_cell BK183.out 0).trans rfl; have hcz6_1 : w3.cell? ⟨gb183, 1, none⟩ = some (.string (⟨#[]⟩ : ByteArray)) := (blk_cell BK183.out 1).trans rfl; have hcz6_2 : w3.cell? ⟨gb183, 2, none⟩ = some (.int .i64 0) := (blk_cell BK183.out 2).trans rfl; have hcz6_3 : w3.cell? ⟨gb183, 3, none⟩ = some (.int .i64 0) := (blk_cell BK183.out 3).trans rfl; have hfz6_0 := blk_frozen BK183.out 0; have hfz6_1 := blk_frozen BK183.out 1; have hfz6_2 := blk_frozen BK183.out 2; have hfz6_3 := blk_frozen BK183.out 3))
  refine bodyPost_ret (results_cell_row rfl _ _ gb183 24 #[.int .i64 a0_0, .string a0_3, .int .i64 a0_1, .int .i64 a0_2] (0, 0) _ rfl (by (with_reducible repeat (first | refine blk_drewN ?_ _ | refine blk_drew ?_ | refine blk_alloc ?_ _)); refine blk_put (cs := #[.int .i64 a0_0, .string a0_3, .int .i64 a0_1, .int .i64 0]) ?_ 3 _ rfl; (with_reducible repeat (first | refine blk_drewN ?_ _ | refine blk_drew ?_ | refine blk_alloc ?_ _)); refine blk_put (cs := #[.int .i64 a0_0, .string a0_3, .int .i64 0, .int .i64 0]) ?_ 2 _ rfl; (with_reducible repeat (first | refine blk_drewN ?_ _ | refine blk_drew ?_ | refine blk_alloc ?_ _)); refine blk_put (cs := #[.int .i64 a0_0, .string (⟨#[]⟩ : ByteArray), .int .i64 0, .int .i64 0]) ?_ 1 _ rfl; (with_reducible repeat (first | refine blk_drewN ?_ _ | refine blk_drew ?_ | refine blk_alloc ?_ _)); refine blk_put (cs := #[.int .i64 0, .string (⟨#[]⟩ : ByteArray), .int .i64 0, .int .i64 0]) ?_ 0 _ rfl; (with_reducible repeat (first | refine blk_drewN ?_ _ | refine blk_drew ?_ | refine blk_alloc ?_ _)); exact BK183.out) Tryz.underlying24 rfl (by kernel_rfl)) rfl ?_
  exact ⟨by first | rfl | (simp [errW_none, errW_some] <;> rfl) | (simp [*, errW_none, errW_some] <;> rfl), by repeat (first | (with_reducible first | exact HB.out | apply below_alloc | apply pw_below_drewN | apply below_drew1 | refine below_set ?_ GE182.out | refine below_set ?_ GE183.out) | exact HB.out)⟩

-- NOT PRINTED: function 12 (impl_ReadString)

/-! ### laws_told9: function 13 -/
def laws_told9.f (a0_0 : Int) (a0_1 : ByteArray) (a0_2 : Int) (a0_3 : Int) (a1 : Bool) (a2_0 : Int) (a2_1 : ByteArray) (a2_2 : Int) (a2_3 : Int) (a3 : Bool) : Option (Bool) := if (a1 == a3) = true then (if a3 = true then (some (a0_0 == a2_0 && (a0_1.toList == a2_1.toList && (a0_2 == a2_2 && (a0_3 == a2_3))))) else (some true)) else (some false)
set_option maxHeartbeats 8000000 in
set_option maxRecDepth 100000 in
theorem laws_told9.calls (a0_0 : Int) (a0_1 : ByteArray) (a0_2 : Int) (a0_3 : Int) (a1 : Bool) (a2_0 : Int) (a2_1 : ByteArray) (a2_2 : Int) (a2_3 : Int) (a3 : Bool) (r : Bool) (w : World) (h : laws_told9.f a0_0 a0_1 a0_2 a0_3 a1 a2_0 a2_1 a2_2 a2_3 a3 = some r) :
    Calls Tryz.prog 13 #[.agg #[.int .i64 a0_0, .string a0_1, .int .i64 a0_2, .int .i64 a0_3], .bool a1, .agg #[.int .i64 a2_0, .string a2_1, .int .i64 a2_2, .int .i64 a2_3], .bool a3] w fun e w' => e = .returned (.bool r) ∧ Below w.heap.size w w' := by
  have hu24 := Tryz.underlying24
  have HB := Aside0.mk (Below.refl w.heap.size w)
  have H : (if (a1 == a3) = true then (if a3 = true then (some (a0_0 == a2_0 && (a0_1.toList == a2_1.toList && (a0_2 == a2_2 && (a0_3 == a2_3))))) else (some true)) else (some false)) = some r := h
  clear h
  by_cases c5 : (a1 == a3) = true
  · rw [if_pos c5] at H
    have c5b0 : (a1 == a3) = true := c5
    (try (have c5b1 : decide (a1 = a3) = true := by simpa using c5))
    (try (have c5b2 : (a1 == a3) = true := by simpa using c5))
    clear c5
    by_cases c6 : a3 = true
    · subst c6
      have H1 : (some (a0_0 == a2_0 && (a0_1.toList == a2_1.toList && (a0_2 == a2_2 && (a0_3 == a2_3))))) = some r := by rw [if_pos rfl] at H; exact H
      clear H
      have H := H1
      clear H1
      obtain rfl := Option.some.inj H
      go_enter Tryz.func13, Tryz.ntmps13
      go_wp2_with (first | ((with_reducible refine gate_dst (N := 4) rfl ?_); refine box_event ?hg (N := 4) ?hd (cs := #[.int .i64 a0_0, .string a0_1, .int .i64 a0_2, .int .i64 a0_3]) (t := 24) ?hr ?_; (case hd => rfl); (case hg => rfl); (case hr => first | (go_simp; done) | (go_simp; rfl)); intro gb185 hg w7 hbox hb; have n0_ := Aside0.mk (below_step (by repeat (first | (with_reducible first | exact HB.out | apply below_alloc | apply pw_below_drewN | apply below_drew1) | exact HB.out)) hb); have n1_ := Aside0.mk (hbox); have n2_ := Aside0.mk ((by rw [hg]; exact (below_size (by repeat (first | (with_reducible first | exact HB.out | apply below_alloc | apply pw_below_drewN | apply below_drew1) | exact HB.out))) : w.heap.size ≤ gb185)); have n3_ := Aside0.mk ((by rw [hg]; exact (below_size (by repeat (first | (with_reducible first | exact HB.out | apply below_alloc | apply pw_below_drewN | apply below_drew1) | exact HB.out))) : w.heap.size ≤ gb185)); clear HB; have HB := n0_; have BK185 := n1_; have GW185 := n2_; have GE185 := n3_; clear n0_ n1_ n2_ n3_; clear hb hbox hg) | ((with_reducible refine gate_dst (N := 6) rfl ?_); refine box_event ?hg (N := 6) ?hd (cs := #[.int .i64 a2_0, .string a2_1, .int .i64 a2_2, .int .i64 a2_3]) (t := 24) ?hr ?_; (case hd => rfl); (case hg => rfl); (case hr => first | (go_simp; done) | (go_simp; rfl)); intro gb186 hg w8 hbox hb; have n0_ := Aside0.mk (blk_below (g := gb185) (o := .cells #[.int .i64 a0_0, .string a0_1, .int .i64 a0_2, .int .i64 a0_3] 24 (0, 0)) (by (with_reducible repeat (first | refine blk_drewN ?_ _ | refine blk_drew ?_ | refine blk_alloc ?_ _)); exact BK185.out) hb); have n1_ := Aside0.mk (below_step (by repeat (first | (with_reducible first | exact HB.out | apply below_alloc | apply pw_below_drewN | apply below_drew1 | refine below_set ?_ GE185.out) | exact HB.out)) hb); have n2_ := Aside0.mk (hbox); have n3_ := Aside0.mk ((by rw [hg]; exact (below_size (by repeat (first | (with_reducible first | exact HB.out | apply below_alloc | apply pw_below_drewN | apply below_drew1 | refine below_set ?_ GE185.out) | exact HB.out))) : w.heap.size ≤ gb186)); have n4_ := Aside0.mk ((by rw [hg]; exact (below_size (by repeat (first | (with_reducible first | exact HB.out | apply below_alloc | apply pw_below_drewN | apply below_drew1 | refine below_set ?_ GE185.out) | exact HB.out))) : w.heap.size ≤ gb186)); have n5_ := Aside0.mk ((by rw [hg]; exact Nat.ne_of_lt (blk_lt (g := gb185) (o := .cells #[.int .i64 a0_0, .string a0_1, .int .i64 a0_2, .int .i64 a0_3] 24 (0, 0)) (by (with_reducible repeat (first | refine blk_drewN ?_ _ | refine blk_drew ?_ | refine blk_alloc ?_ _)); exact BK185.out)) : gb185 ≠ gb186)); have n6_ := Aside0.mk ((by rw [hg]; exact Nat.ne_of_gt (blk_lt (g := gb185) (o := .cells #[.int .i64 a0_0, .string a0_1, .int .i64 a0_2, .int .i64 a0_3] 24 (0, 0)) (by (with_reducible repeat (first | refine blk_drewN ?_ _ | refine blk_drew ?_ | refine blk_alloc ?_ _)); exact BK185.out)) : gb186 ≠ gb185)); clear BK185; clear HB; have BK185 := n0_; have HB := n1_; have BK186 := n2_; have GW186 := n3_; have GE186 := n4_; have NB185_186 := n5_; have NB186_185 := n6_; clear n0_ n1_ n2_ n3_ n4_ n5_ n6_; clear hb hbox hg; have hnb9 := NB185_186.out; have hnc9 := NB186_185.out; have hcz10_0 : w8.cell? ⟨gb185, 0, none⟩ = some (.int .i64 a0_0) := (blk_cell BK185.out 0).trans rfl; have hcz10_1 : w8.cell? ⟨gb185, 1, none⟩ = some (.string a0_1) := (blk_cell BK185.out 1).trans rfl; have hcz10_2 : w8.cell? ⟨gb185, 2, none⟩ = some (.int .i64 a0_2) := (blk_cell BK185.out 2).trans rfl; have hcz10_3 : w8.cell? ⟨gb185, 3, none⟩ = some (.int .i64 a0_3) := (blk_cell BK185.out 3).trans rfl; have hfz10_0 := blk_frozen BK185.out 0; have hfz10_1 := blk_frozen BK185.out 1; have hfz10_2 := blk_frozen BK185.out 2; have hfz10_3 := blk_frozen BK185.out 3; have hcz11_0 : w8.cell? ⟨gb186, 0, none⟩ = some (.int .i64 a2_0) := (blk_cell BK186.out 0).trans rfl; have hcz11_1 : w8.cell? ⟨gb186, 1, none⟩ = some (.string a2_1) := (blk_cell BK186.out 1).trans rfl; have hcz11_2 : w8.cell? ⟨gb186, 2, none⟩ = some (.int .i64 a2_2) := (blk_cell BK186.out 2).trans rfl; have hcz11_3 : w8.cell? ⟨gb186, 3, none⟩ = some (.int .i64 a2_3) := (blk_cell BK186.out 3).trans rfl; have hfz11_0 := blk_frozen BK186.out 0; have hfz11_1 := blk_frozen BK186.out 1; have hfz11_2 := blk_frozen BK186.out 2; have hfz11_3 := blk_frozen BK186.out 3))
      go_ret
      exact ⟨by first | rfl | (simp [errW_none, errW_some] <;> rfl) | (simp [*, errW_none, errW_some] <;> rfl), by repeat (first | (with_reducible first | exact HB.out | apply below_alloc | apply pw_below_drewN | apply below_drew1 | refine below_set ?_ GE185.out | refine below_set ?_ GE186.out) | exact HB.out)⟩
    · replace c6 := Bool.eq_false_iff.mpr c6
      subst c6
      have H1 : (some true) = some r := by rw [if_neg (show ¬ (false = true) by decide)] at H; exact H
      clear H
      have H := H1
      clear H1
      obtain rfl := Option.some.inj H
      go_enter Tryz.func13, Tryz.ntmps13
      go_wp2_with (first | ((with_reducible refine gate_dst (N := 4) rfl ?_); refine box_event ?hg (N := 4) ?hd (cs := #[.int .i64 a0_0, .string a0_1, .int .i64 a0_2, .int .i64 a0_3]) (t := 24) ?hr ?_; (case hd => rfl); (case hg => rfl); (case hr => first | (go_simp; done) | (go_simp; rfl)); intro gb185 hg w12 hbox hb; have n0_ := Aside0.mk (below_step (by repeat (first | (with_reducible first | exact HB.out | apply below_alloc | apply pw_below_drewN | apply below_drew1) | exact HB.out)) hb); have n1_ := Aside0.mk (hbox); have n2_ := Aside0.mk ((by rw [hg]; exact (below_size (by repeat (first | (with_reducible first | exact HB.out | apply below_alloc | apply pw_below_drewN | apply below_drew1) | exact HB.out))) : w.heap.size ≤ gb185)); have n3_ := Aside0.mk ((by rw [hg]; exact (below_size (by repeat (first | (with_reducible first | exact HB.out | apply below_alloc | apply pw_below_drewN | apply below_drew1) | exact HB.out))) : w.heap.size ≤ gb185)); clear HB; have HB := n0_; have BK185 := n1_; have GW185 := n2_; have GE185 := n3_; clear n0_ n1_ n2_ n3_; clear hb hbox hg) | ((with_reducible refine gate_dst (N := 6) rfl ?_); refine box_event ?hg (N := 6) ?hd (cs := #[.int .i64 a2_0, .string a2_1, .int .i64 a2_2, .int .i64 a2_3]) (t := 24) ?hr ?_; (case hd => rfl); (case hg => rfl); (case hr => first | (go_simp; done) | (go_simp; rfl)); intro gb186 hg w13 hbox hb; have n0_ := Aside0.mk (blk_below (g := gb185) (o := .cells #[.int .i64 a0_0, .string a0_1, .int .i64 a0_2, .int .i64 a0_3] 24 (0, 0)) (by (with_reducible repeat (first | refine blk_drewN ?_ _ | refine blk_drew ?_ | refine blk_alloc ?_ _)); exact BK185.out) hb); have n1_ := Aside0.mk (below_step (by repeat (first | (with_reducible first | exact HB.out | apply below_alloc | apply pw_below_drewN | apply below_drew1 | refine below_set ?_ GE185.out) | exact HB.out)) hb); have n2_ := Aside0.mk (hbox); have n3_ := Aside0.mk ((by rw [hg]; exact (below_size (by repeat (first | (with_reducible first | exact HB.out | apply below_alloc | apply pw_below_drewN | apply below_drew1 | refine below_set ?_ GE185.out) | exact HB.out))) : w.heap.size ≤ gb186)); have n4_ := Aside0.mk ((by rw [hg]; exact (below_size (by repeat (first | (with_reducible first | exact HB.out | apply below_alloc | apply pw_below_drewN | apply below_drew1 | refine below_set ?_ GE185.out) | exact HB.out))) : w.heap.size ≤ gb186)); have n5_ := Aside0.mk ((by rw [hg]; exact Nat.ne_of_lt (blk_lt (g := gb185) (o := .cells #[.int .i64 a0_0, .string a0_1, .int .i64 a0_2, .int .i64 a0_3] 24 (0, 0)) (by (with_reducible repeat (first | refine blk_drewN ?_ _ | refine blk_drew ?_ | refine blk_alloc ?_ _)); exact BK185.out)) : gb185 ≠ gb186)); have n6_ := Aside0.mk ((by rw [hg]; exact Nat.ne_of_gt (blk_lt (g := gb185) (o := .cells #[.int .i64 a0_0, .string a0_1, .int .i64 a0_2, .int .i64 a0_3] 24 (0, 0)) (by (with_reducible repeat (first | refine blk_drewN ?_ _ | refine blk_drew ?_ | refine blk_alloc ?_ _)); exact BK185.out)) : gb186 ≠ gb185)); clear BK185; clear HB; have BK185 := n0_; have HB := n1_; have BK186 := n2_; have GW186 := n3_; have GE186 := n4_; have NB185_186 := n5_; have NB186_185 := n6_; clear n0_ n1_ n2_ n3_ n4_ n5_ n6_; clear hb hbox hg))
      go_ret
      exact ⟨by first | rfl | (simp [errW_none, errW_some] <;> rfl) | (simp [*, errW_none, errW_some] <;> rfl), by repeat (first | (with_reducible first | exact HB.out | apply below_alloc | apply pw_below_drewN | apply below_drew1 | refine below_set ?_ GE185.out | refine below_set ?_ GE186.out) | exact HB.out)⟩
  · rw [if_neg c5] at H
    have c5b0 : (a1 == a3) = false := by simpa using c5
    (try (have c5b1 : decide (a1 = a3) = false := by simpa using c5))
    (try (have c5b2 : (a1 == a3) = false := by simpa using c5))
    (try (have c5b3 : ¬ (a1 = a3) := by simpa using c5))
    clear c5
    obtain rfl := Option.some.inj H
    go_enter Tryz.func13, Tryz.ntmps13
    go_wp2_with (first | ((with_reducible refine gate_dst (N := 4) rfl ?_); refine box_event ?hg (N := 4) ?hd (cs := #[.int .i64 a0_0, .string a0_1, .int .i64 a0_2, .int .i64 a0_3]) (t := 24) ?hr ?_; (case hd => rfl); (case hg => rfl); (case hr => first | (go_simp; done) | (go_simp; rfl)); intro gb185 hg w14 hbox hb; have n0_ := Aside0.mk (below_step (by repeat (first | (with_reducible first | exact HB.out | apply below_alloc | apply pw_below_drewN | apply below_drew1) | exact HB.out)) hb); have n1_ := Aside0.mk (hbox); have n2_ := Aside0.mk ((by rw [hg]; exact (below_size (by repeat (first | (with_reducible first | exact HB.out | apply below_alloc | apply pw_below_drewN | apply below_drew1) | exact HB.out))) : w.heap.size ≤ gb185)); have n3_ := Aside0.mk ((by rw [hg]; exact (below_size (by repeat (first | (with_reducible first | exact HB.out | apply below_alloc | apply pw_below_drewN | apply below_drew1) | exact HB.out))) : w.heap.size ≤ gb185)); clear HB; have HB := n0_; have BK185 := n1_; have GW185 := n2_; have GE185 := n3_; clear n0_ n1_ n2_ n3_; clear hb hbox hg) | ((with_reducible refine gate_dst (N := 6) rfl ?_); refine box_event ?hg (N := 6) ?hd (cs := #[.int .i64 a2_0, .string a2_1, .int .i64 a2_2, .int .i64 a2_3]) (t := 24) ?hr ?_; (case hd => rfl); (case hg => rfl); (case hr => first | (go_simp; done) | (go_simp; rfl)); intro gb186 hg w15 hbox hb; have n0_ := Aside0.mk (blk_below (g := gb185) (o := .cells #[.int .i64 a0_0, .string a0_1, .int .i64 a0_2, .int .i64 a0_3] 24 (0, 0)) (by (with_reducible repeat (first | refine blk_drewN ?_ _ | refine blk_drew ?_ | refine blk_alloc ?_ _)); exact BK185.out) hb); have n1_ := Aside0.mk (below_step (by repeat (first | (with_reducible first | exact HB.out | apply below_alloc | apply pw_below_drewN | apply below_drew1 | refine below_set ?_ GE185.out) | exact HB.out)) hb); have n2_ := Aside0.mk (hbox); have n3_ := Aside0.mk ((by rw [hg]; exact (below_size (by repeat (first | (with_reducible first | exact HB.out | apply below_alloc | apply pw_below_drewN | apply below_drew1 | refine below_set ?_ GE185.out) | exact HB.out))) : w.heap.size ≤ gb186)); have n4_ := Aside0.mk ((by rw [hg]; exact (below_size (by repeat (first | (with_reducible first | exact HB.out | apply below_alloc | apply pw_below_drewN | apply below_drew1 | refine below_set ?_ GE185.out) | exact HB.out))) : w.heap.size ≤ gb186)); have n5_ := Aside0.mk ((by rw [hg]; exact Nat.ne_of_lt (blk_lt (g := gb185) (o := .cells #[.int .i64 a0_0, .string a0_1, .int .i64 a0_2, .int .i64 a0_3] 24 (0, 0)) (by (with_reducible repeat (first | refine blk_drewN ?_ _ | refine blk_drew ?_ | refine blk_alloc ?_ _)); exact BK185.out)) : gb185 ≠ gb186)); have n6_ := Aside0.mk ((by rw [hg]; exact Nat.ne_of_gt (blk_lt (g := gb185) (o := .cells #[.int .i64 a0_0, .string a0_1, .int .i64 a0_2, .int .i64 a0_3] 24 (0, 0)) (by (with_reducible repeat (first | refine blk_drewN ?_ _ | refine blk_drew ?_ | refine blk_alloc ?_ _)); exact BK185.out)) : gb186 ≠ gb185)); clear BK185; clear HB; have BK185 := n0_; have HB := n1_; have BK186 := n2_; have GW186 := n3_; have GE186 := n4_; have NB185_186 := n5_; have NB186_185 := n6_; clear n0_ n1_ n2_ n3_ n4_ n5_ n6_; clear hb hbox hg))
    go_ret
    exact ⟨by first | rfl | (simp [errW_none, errW_some] <;> rfl) | (simp [*, errW_none, errW_some] <;> rfl), by repeat (first | (with_reducible first | exact HB.out | apply below_alloc | apply pw_below_drewN | apply below_drew1 | refine below_set ?_ GE185.out | refine below_set ?_ GE186.out) | exact HB.out)⟩

-- NOT PRINTED: function 3 (laws_FnReadString)

end Go.Proofs.YtbobbognjmofdaaGreatDoor.PFnReadString
end
