/- An error in a text comes back (gqlerrors.NewSyntaxError, NewError, newError). At texts of at most 2000 bytes, places in them. -/
import Derived.Test.YtbobbognjmofdaaGreatDoorLexErr
import Derived.Outline
import Derived.Deep.RegionLaw
import Derived.Laws.Cover4
namespace Go.Proofs.YtbobbognjmofdaaGreatDoor.PFnReadString
open Go.RowKit Go.Proofs.YtbobbognjmofdaaGreatDoorW.PrintWords Go.Proofs.YtbobbognjmofdaaGreatDoorW.PrintLast Go.Proofs.YtbobbognjmofdaaGreatDoorW.PrintMore
set_option linter.unusedVariables false
set_option linter.unusedSimpArgs false
theorem info287 : (Tryz.prog.info? 287).map (fun i => (i.zero, i.size, i.bytes)) = some (some (.agg #[.int .i64 0, .int .i64 0]), 2, 16) := by kernel_rfl
abbrev syntaxError : ByteArray := { data := #[83, 121, 110, 116, 97, 120, 32, 69, 114, 114, 111, 114] }
set_option maxHeartbeats 1000000 in
theorem newError_any (s : ByteArray) (g nb pb cn cp : Nat) (A : Option Addr) (c : Nat) (pos : Int) (w : World)
   (hB : w.cell? ⟨g, 0, none⟩ = some (.slice A s.size c)) (hr : Kd.C (Kd.int .u8) w A s.size (bytesOf s)) (hc : s.size ≤ c) (hs : s.size ≤ 2000) (hp0 : 0 ≤ pos) (hp : pos ≤ 2000)
   (hP : w.cell? ⟨pb, 0, none⟩ = some (.int .i64 pos)) :
    Calls Tryz.prog 167 #[.string syntaxError, .slice (some ⟨nb, 0, none⟩) 0 cn, .string ⟨#[]⟩, .pointer (some ⟨g, 0, none⟩), .slice (some ⟨pb, 0, none⟩) 1 cp, .slice none 0 0, .nilIface] w fun e w' => (∃ q, e = .returned (.pointer (some ⟨q, 0, none⟩))) ∧ Below w.heap.size w w' := by
  have HB := Aside0.mk hB
  have HR := Aside0.mk hr
  clear hB hr
  go_enter Tryz.func167, Tryz.ntmps167
  go_wp2_with fail
  have hP1 : (w.alloc (.cells #[] 287)).cell? ⟨pb, 0, none⟩ = some (.int .i64 pos) := old_cell (below_alloc (Below.refl _ _) _) hP
  clear hP
  refine wp_loop_rounds 2 ?_
  rw [rounds_succ]
  go_wp2_with fail
  have hB0 : Below w.heap.size w (w.alloc (.cells #[] 287)) := below_alloc (Below.refl _ _) _
  have hl : (bytesOf s).length = s.size := bytesOf_length s
  have hf := lines_tell s hs (s.size + 1) 0 (3 * (s.size + 1)) [] (by omega) (by omega) (by simp) (by omega)
  refine (getLocation_any (3 * (s.size + 1)) g A c (bytesOf s) (ends s (s.size + 1) 0) pos _ _ _ (by rw [hl]; exact old_cell hB0 HB.out) (by rw [hl]; exact Kd.C_below HR.out hB0) (by omega) (by omega) (by have := ends_len s (s.size + 1) 0 (by omega); omega) hp0 hp (by simpa [location_zzLineEnds.f] using hf) (by rw [hl]; exact ends_in s (s.size + 1) 0) rfl).mono ?_
  rintro e w1 ⟨rfl, hb1⟩
  have HB1 := Aside0.mk (hB0.trans (hb1.mono (by simp)))
  clear hb1 hB0 hf hl hP1
  go_wp2_with fail
  rw [rounds_succ]
  go_wp2_with fail
  go_ret
  exact ⟨⟨_, rfl⟩, pw_below_drewN (below_alloc (below_alloc (below_alloc (below_alloc HB1.out _) _) _) _) 1⟩
set_option maxHeartbeats 1000000 in
theorem newError2_any (s : ByteArray) (g nb pb cn cp : Nat) (A : Option Addr) (c : Nat) (pos : Int) (w : World)
   (hB : w.cell? ⟨g, 0, none⟩ = some (.slice A s.size c)) (hr : Kd.C (Kd.int .u8) w A s.size (bytesOf s)) (hc : s.size ≤ c) (hs : s.size ≤ 2000) (hp0 : 0 ≤ pos) (hp : pos ≤ 2000)
   (hP : w.cell? ⟨pb, 0, none⟩ = some (.int .i64 pos)) :
    Calls Tryz.prog 138 #[.string syntaxError, .slice (some ⟨nb, 0, none⟩) 0 cn, .string ⟨#[]⟩, .pointer (some ⟨g, 0, none⟩), .slice (some ⟨pb, 0, none⟩) 1 cp, .nilIface] w fun e w' => (∃ q, e = .returned (.pointer (some ⟨q, 0, none⟩))) ∧ Below w.heap.size w w' := by
  have HB := Aside0.mk hB
  have HR := Aside0.mk hr
  have HP := Aside0.mk hP
  clear hB hr hP
  go_enter Tryz.func138, Tryz.ntmps138
  go_wp2_with fail
  refine (newError_any s g nb pb cn cp A c pos _ HB.out HR.out hc hs hp0 hp HP.out).mono ?_
  rintro e w1 ⟨⟨q, rfl⟩, hb1⟩
  have HB1 := Aside0.mk hb1
  clear hb1
  go_wp2_with fail
  go_ret
  exact ⟨⟨_, rfl⟩, HB1.out⟩
set_option maxHeartbeats 1000000 in
/-- An error in a text comes back. -/
theorem synErr_any (s : ByteArray) (g : Nat) (A : Option Addr) (c : Nat) (pos : Int) (desc : ByteArray) (w : World)
   (hB : w.cell? ⟨g, 0, none⟩ = some (.slice A s.size c)) (hr : Kd.C (Kd.int .u8) w A s.size (bytesOf s)) (hc : s.size ≤ c) (hs : s.size ≤ 2000) (hp0 : 0 ≤ pos) (hp : pos ≤ 2000) :
    Calls Tryz.prog 96 #[.pointer (some ⟨g, 0, none⟩), .int .i64 pos, .string desc] w fun e w' => (∃ q, e = .returned (.pointer (some ⟨q, 0, none⟩))) ∧ Below w.heap.size w w' := by
  have HB := Aside0.mk hB
  have HR := Aside0.mk hr
  clear hB hr
  go_enter Tryz.func96, Tryz.ntmps96
  go_wp2_with fail
  have hB0 : Below w.heap.size w ((w.alloc (.cells #[] 277)).alloc (.cells #[.int .i64 pos] 3)) := below_alloc (below_alloc (Below.refl _ _) _) _
  refine (newError2_any s g w.heap.size (w.heap.size + 1) 0 1 A c pos _ (old_cell hB0 HB.out) (Kd.C_below HR.out hB0) hc hs hp0 hp (by go_simp)).mono ?_
  rintro e w1 ⟨⟨q, rfl⟩, hb1⟩
  have HB1 := Aside0.mk (hB0.trans (hb1.mono (by simp; omega)))
  clear hb1 hB0
  go_wp2_with fail
  go_ret
  exact ⟨⟨_, rfl⟩, HB1.out⟩
end Go.Proofs.YtbobbognjmofdaaGreatDoor.PFnReadString
