/-
  The package's nodes of types: locations, names, named types, lists, non-null types, walked.
-/
import Derived.Test.YtbobbognjmofdaaGreatDoorPrB
import Derived.StillTailTactics
namespace Go.Proofs.YtbobbognjmofdaaGreatDoor.Lex
open Go.RowKit Go.Proofs.YtbobbognjmofdaaGreatDoorW.PrintWords Go.Proofs.YtbobbognjmofdaaGreatDoorW.PrintLast Go.Proofs.YtbobbognjmofdaaGreatDoorW.PrintMore
open Go.Proofs.YtbobbognjmofdaaGreatDoor.Ptext
set_option linter.unusedVariables false
set_option linter.unusedSimpArgs false
/-- A location in memory. -/
def LocAt (W : World) (p : Nat) : Prop := ∃ a b u, W.heap[p]? = some (.cells #[.int .i64 a, .int .i64 b, u] 207 (0, 0))
set_option maxHeartbeats 400000 in
theorem newLoc_any (q : Nat) (a b : Int) (u : Option Addr) (w : World) (h : w.heap[q]? = some (.cells #[.int .i64 a, .int .i64 b, .pointer u] 207 (0, 0))) :
    Calls Tryz.prog 151 #[.pointer (some ⟨q, 0, none⟩)] w fun e w' => (∃ p, e = .returned (.pointer (some ⟨p, 0, none⟩)) ∧ w.heap.size ≤ p ∧ LocAt w' p) ∧ Below w.heap.size w w' := by
  have c0 := (blk_cell h 0).trans rfl
  have c1 := (blk_cell h 1).trans rfl
  have c2 := (blk_cell h 2).trans rfl
  clear h
  go_enter Tryz.func151, Tryz.ntmps151
  go_wp2_with fail
  go_region
  all_goals
    go_wp2_with fail
    go_ret
    exact ⟨⟨_, rfl, by simp, ⟨a, b, .pointer u, by first | exact blk_new _ _ | (have := blk_new w.drew (.cells #[.int .i64 a, .int .i64 b, .pointer u] 207); simpa using this)⟩⟩, by first | exact below_alloc (below_drew (Below.refl _ _)) _ | exact below_drew (below_alloc (Below.refl _ _) _)⟩
set_option maxHeartbeats 400000 in
theorem newList_any (q p : Nat) (z : ByteArray) (u : Value) (w : World) (h : w.heap[q]? = some (.cells #[.string z, .pointer (some ⟨p, 0, none⟩), u] 135 (0, 0))) (hu : ∃ T x, u = .iface T x) :
    Calls Tryz.prog 117 #[.pointer (some ⟨q, 0, none⟩)] w fun e w' => (∃ r, e = .returned (.pointer (some ⟨r, 0, none⟩)) ∧ w'.heap[r]? = some (.cells #[.string ⟨#[76, 105, 115, 116]⟩, .pointer (some ⟨p, 0, none⟩), u] 135 (0, 0))) ∧ Below w.heap.size w w' := by
  obtain ⟨T, x, rfl⟩ := hu
  have c1 := (blk_cell h 1).trans rfl
  have c2 := (blk_cell h 2).trans rfl
  clear h
  go_enter Tryz.func117, Tryz.ntmps117
  go_wp2_with fail
  go_region
  all_goals
    go_wp2_with fail
    go_ret
    exact ⟨⟨_, rfl, by first | exact blk_new _ _ | (have := blk_new w.drew (.cells #[.string ⟨#[76, 105, 115, 116]⟩, .pointer (some ⟨p, 0, none⟩), .iface T x] 135); simpa using this)⟩, by first | exact below_alloc (below_drew (Below.refl _ _)) _ | exact below_drew (below_alloc (Below.refl _ _) _)⟩
set_option maxHeartbeats 400000 in
theorem newNonNull_any (q p : Nat) (z : ByteArray) (u : Value) (w : World) (h : w.heap[q]? = some (.cells #[.string z, .pointer (some ⟨p, 0, none⟩), u] 137 (0, 0))) (hu : ∃ T x, u = .iface T x) :
    Calls Tryz.prog 121 #[.pointer (some ⟨q, 0, none⟩)] w fun e w' => (∃ r, e = .returned (.pointer (some ⟨r, 0, none⟩)) ∧ w'.heap[r]? = some (.cells #[.string ⟨#[78, 111, 110, 78, 117, 108, 108]⟩, .pointer (some ⟨p, 0, none⟩), u] 137 (0, 0))) ∧ Below w.heap.size w w' := by
  obtain ⟨T, x, rfl⟩ := hu
  have c1 := (blk_cell h 1).trans rfl
  have c2 := (blk_cell h 2).trans rfl
  clear h
  go_enter Tryz.func121, Tryz.ntmps121
  go_wp2_with fail
  go_region
  all_goals
    go_wp2_with fail
    go_ret
    exact ⟨⟨_, rfl, by first | exact blk_new _ _ | (have := blk_new w.drew (.cells #[.string ⟨#[78, 111, 110, 78, 117, 108, 108]⟩, .pointer (some ⟨p, 0, none⟩), .iface T x] 137); simpa using this)⟩, by first | exact below_alloc (below_drew (Below.refl _ _)) _ | exact below_drew (below_alloc (Below.refl _ _) _)⟩
set_option maxHeartbeats 400000 in
theorem newNamed_any (q : Nat) (z : ByteArray) (u1 u2 : Value) (w : World) (h : w.heap[q]? = some (.cells #[.string z, u1, u2] 131 (0, 0))) :
    Calls Tryz.prog 153 #[.pointer (some ⟨q, 0, none⟩)] w fun e w' => e = .returned (.pointer (some ⟨q, 0, none⟩)) ∧ w' = w.setCell ⟨q, 0, none⟩ (.string ⟨#[78, 97, 109, 101, 100]⟩) := by
  have c0 := (blk_cell h 0).trans rfl
  have f0 := blk_frozen h 0
  clear h
  go_enter Tryz.func153, Tryz.ntmps153
  go_wp2_with fail
  go_ret
  exact ⟨rfl, rfl⟩
set_option maxHeartbeats 400000 in
theorem newName_any (q : Nat) (z : ByteArray) (u1 u2 : Value) (w : World) (h : w.heap[q]? = some (.cells #[.string z, u1, u2] 222 (0, 0))) :
    Calls Tryz.prog 178 #[.pointer (some ⟨q, 0, none⟩)] w fun e w' => e = .returned (.pointer (some ⟨q, 0, none⟩)) ∧ w' = w.setCell ⟨q, 0, none⟩ (.string ⟨#[78, 97, 109, 101]⟩) := by
  have c0 := (blk_cell h 0).trans rfl
  have f0 := blk_frozen h 0
  clear h
  go_enter Tryz.func178, Tryz.ntmps178
  go_wp2_with fail
  go_ret
  exact ⟨rfl, rfl⟩
end Go.Proofs.YtbobbognjmofdaaGreatDoor.Lex
