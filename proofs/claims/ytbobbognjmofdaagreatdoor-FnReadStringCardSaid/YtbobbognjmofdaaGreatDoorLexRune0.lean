/- The shelf's contract of unicode/utf8.DecodeRune, laid at this seat's translation. -/
import Derived.Shelf.Spec.DecodeRune
import Derived.Test.YtbobbognjmofdaaGreatDoorProg
namespace Go.Proofs
open Go.Shelf Go.RowKit
def Tryz.laysS32_ren : Go.Shelf.Ren := ⟨fun | 32 => 137 | 49 => 166 | n => n, fun | 30 => 74 | 21 => 21 | 3 => 3 | 0 => 0 | 5 => 5 | 4 => 4 | 33 => 180 | 66 => 279 | 25 => 113 | 69 => 282 | 68 => 281 | n => n, fun | 2 => 1 | 3 => 2 | n => n⟩
theorem Tryz.laysS32 : Go.Proofs.Lays7.n32 Tryz.prog Tryz.laysS32_ren := {
  mixed := by kernel_rfl
  f32 := Tryz.func137.trans (congrArg some (by kernel_rfl))
  f49 := Tryz.func166.trans (congrArg some (by kernel_rfl))
  t0 := Tryz.underlying0
  a0 := Tryz.isAgg0
  z0 := Tryz.sizeOf0
  v0 := Tryz.zeroValue0
  i0 := by kernel_rfl
  t3 := Tryz.underlying3
  a3 := Tryz.isAgg3
  z3 := Tryz.sizeOf3
  v3 := Tryz.zeroValue3
  i3 := by kernel_rfl
  t4 := Tryz.underlying4
  a4 := Tryz.isAgg4
  z4 := Tryz.sizeOf4
  v4 := Tryz.zeroValue4
  i4 := by kernel_rfl
  t5 := Tryz.underlying5
  a5 := Tryz.isAgg5
  z5 := Tryz.sizeOf5
  v5 := Tryz.zeroValue5
  i5 := by kernel_rfl
  t21 := Tryz.underlying21
  a21 := Tryz.isAgg21
  z21 := Tryz.sizeOf21
  v21 := Tryz.zeroValue21
  i21 := by kernel_rfl
  t25 := Tryz.underlying113
  a25 := Tryz.isAgg113
  z25 := Tryz.sizeOf113
  v25 := Tryz.zeroValue113
  i25 := by kernel_rfl
  t30 := Tryz.underlying74
  a30 := Tryz.isAgg74
  z30 := Tryz.sizeOf74
  v30 := Tryz.zeroValue74
  i30 := by kernel_rfl
  t33 := Tryz.underlying180
  a33 := Tryz.isAgg180
  z33 := Tryz.sizeOf180
  v33 := Tryz.zeroValue180
  i33 := by kernel_rfl
  t66 := Tryz.underlying279
  a66 := Tryz.isAgg279
  z66 := Tryz.sizeOf279
  t68 := Tryz.underlying281
  a68 := Tryz.isAgg281
  z68 := Tryz.sizeOf281
  v68 := Tryz.zeroValue281
  i68 := by kernel_rfl
  t69 := Tryz.underlying282
  a69 := Tryz.isAgg282
  z69 := Tryz.sizeOf282
  v69 := Tryz.zeroValue282
  i69 := by kernel_rfl
  g2 := by kernel_rfl
  g3 := by kernel_rfl
}
theorem Tryz.utf8_DecodeRune (s : ByteArray) (b off cap : Nat) (w : World) (hT : Lib.Utf8Tabs 1 2 w)
    (hp : ∀ j, j < s.size → w.cell? ⟨b, off + j, none⟩ = some (.int .u8 (s.get! j).toNat)) :
    Calls Tryz.prog 137 #[.slice (some ⟨b, off, none⟩) s.size cap] w fun e w' => e = .returned (.tuple #[.int .i32 (Lib.decodeGo s).1, .int .i64 (Lib.decodeGo s).2]) ∧ Below w.heap.size w w' :=
  Any7.utf8_DecodeRune Tryz.laysS32 s b off cap w hT hp
end Go.Proofs
