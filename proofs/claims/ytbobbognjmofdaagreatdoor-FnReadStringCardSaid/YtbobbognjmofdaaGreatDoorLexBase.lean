import Derived.Test.YtbobbognjmofdaaGreatDoorPtextx1
import Derived.Outline
import Derived.Deep.RegionLaw
import Derived.Laws.Cover4
namespace Go.Proofs.YtbobbognjmofdaaGreatDoor.Lex
open Go.RowKit Go.Proofs.YtbobbognjmofdaaGreatDoorW.PrintWords Go.Proofs.YtbobbognjmofdaaGreatDoorW.PrintLast Go.Proofs.YtbobbognjmofdaaGreatDoorW.PrintMore
open Go.Proofs.YtbobbognjmofdaaGreatDoor.Ptext
set_option linter.unusedVariables false
set_option linter.unusedSimpArgs false
theorem info24 : (Tryz.prog.info? 24).map (fun i => (i.zero, i.size, i.bytes)) = some (some (.agg #[.int .i64 0, .string ⟨#[]⟩, .int .i64 0, .int .i64 0]), 4, 40) := by kernel_rfl
theorem k24_E : ∀ q, q ∈ 24 :: k24.E → q ≠ 67 := by
  simp [k24, Kd.iso, Kd.pair, Kd.int, Kd.string, Kd.scalar]
/-- The reference's lexer. -/
structure LS where
  s : ByteArray
  at_ : Int
  out : List S24
  bad : Bool
  unsure : Bool
/-- Such a lexer in memory, in block g, made by the call itself (above base). -/
def Lx (W : World) (base g : Nat) (x : LS) : Prop := ∃ v, W.heap[g]? = some (.cells #[.string x.s, .int .i64 x.at_, v, .bool x.bad, .bool x.unsure] 67 (0, 0)) ∧ base ≤ g ∧ Kd.R k24 24 W base (fun _ => True) v x.out
theorem Lx.cells {W : World} {base g : Nat} {x : LS} (h : Lx W base g x) : ∃ v,
    W.cell? ⟨g, 0, none⟩ = some (.string x.s) ∧ W.cell? ⟨g, 1, none⟩ = some (.int .i64 x.at_) ∧ W.cell? ⟨g, 2, none⟩ = some v ∧ W.cell? ⟨g, 3, none⟩ = some (.bool x.bad) ∧ W.cell? ⟨g, 4, none⟩ = some (.bool x.unsure) ∧ ∀ j, W.frozen? ⟨g, j, none⟩ = false := by
  obtain ⟨v, h, -, -⟩ := h
  refine ⟨v, ?_, ?_, ?_, ?_, ?_, fun j => ?_⟩ <;> simp [World.cell?, World.frozen?, h]
theorem Lx.slice {W : World} {base g : Nat} {x : LS} (h : Lx W base g x) : ∃ A c, x.out.length ≤ c ∧ Kd.C k24 W A x.out.length x.out ∧ W.cell? ⟨g, 2, none⟩ = some (.slice A x.out.length c) := by
  obtain ⟨v, h, -, hR⟩ := h
  obtain ⟨A, c, rfl, hc, hC⟩ := Kd.R_reads hR
  exact ⟨A, c, hc, hC, by simp [World.cell?, h]⟩
theorem Lx.lt {W : World} {base g : Nat} {x : LS} (h : Lx W base g x) : g < W.heap.size := by
  obtain ⟨v, h, -, -⟩ := h
  exact (Array.getElem?_eq_some_iff.1 h).1
theorem Lx.below {W W1 : World} {base g : Nat} {x : LS} (h : Lx W base g x) (hb : Below W.heap.size W W1) : Lx W1 base g x := by
  have hlt := h.lt
  obtain ⟨v, h, hg, hR⟩ := h
  exact ⟨v, (hb.block g hlt).trans h, hg, Kd.R_below hR hb⟩
theorem Lx.drewN {W : World} {base g : Nat} {x : LS} (h : Lx W base g x) (m : Nat) : Lx (W.drewN m) base g x := h.below (pw_below_drewN (Below.refl _ _) m)
theorem Lx.drew {W : World} {base g : Nat} {x : LS} (h : Lx W base g x) : Lx W.drew base g x := h.drewN 1
/-- A store into one of the lexer's own cells but the slice. -/
theorem Lx.set1 {W : World} {base g : Nat} {x : LS} (h : Lx W base g x) (i : Int) : Lx (W.setCell ⟨g, 1, none⟩ (.int .i64 i)) base g { x with at_ := i } := by
  obtain ⟨v, h, hg, hR⟩ := h
  exact ⟨v, (blk_set h 1 _).trans rfl, hg, Kd.R_set hR h k24_E _ _⟩
theorem Lx.set3 {W : World} {base g : Nat} {x : LS} (h : Lx W base g x) (b : Bool) : Lx (W.setCell ⟨g, 3, none⟩ (.bool b)) base g { x with bad := b } := by
  obtain ⟨v, h, hg, hR⟩ := h
  exact ⟨v, (blk_set h 3 _).trans rfl, hg, Kd.R_set hR h k24_E _ _⟩
theorem Lx.set4 {W : World} {base g : Nat} {x : LS} (h : Lx W base g x) (b : Bool) : Lx (W.setCell ⟨g, 4, none⟩ (.bool b)) base g { x with unsure := b } := by
  obtain ⟨v, h, hg, hR⟩ := h
  exact ⟨v, (blk_set h 4 _).trans rfl, hg, Kd.R_set hR h k24_E _ _⟩
theorem Lx.bset {W W1 : World} {base g : Nat} {x : LS} (h : Lx W1 base g x) (hb : Below base W W1) (j : Nat) (u : Value) : Below base W (W1.setCell ⟨g, j, none⟩ u) := by
  obtain ⟨v, h, hg, hR⟩ := h
  exact hb.setCell hg u
set_option maxHeartbeats 400000 in
theorem add_any (base g : Nat) (x : LS) (kind tt : Int) (val : ByteArray) (w : World) (h : Lx w base g x) (hbase : base ≤ w.heap.size) (hl : (x.out.length + 1) * 40 ≤ 140737488355328) :
    Calls Tryz.prog 53 #[.pointer (some ⟨g, 0, none⟩), .int .i64 kind, .int .i64 tt, .string val] w fun e w' => e = .returned (.tuple #[]) ∧ Lx w' base g { x with at_ := tt, out := x.out ++ [⟨kind, val, x.at_, tt⟩] } ∧ Below base w w' := by
  have hlt := h.lt
  obtain ⟨v, hh, hg, hR⟩ := h
  have c0 : w.cell? ⟨g, 0, none⟩ = some (.string x.s) := by simp [World.cell?, hh]
  have c1 : w.cell? ⟨g, 1, none⟩ = some (.int .i64 x.at_) := by simp [World.cell?, hh]
  have c2 : w.cell? ⟨g, 2, none⟩ = some v := by simp [World.cell?, hh]
  have fz : ∀ j, w.frozen? ⟨g, j, none⟩ = false := fun j => by simp [World.frozen?, hh]
  have HH := Aside0.mk hh
  have HR := Aside0.mk hR
  have hne : some g ≠ v.ownBlock := by
    intro he
    obtain ⟨cs, hcs⟩ := own_typed hR.2.choose_spec.1 g he.symm
    rw [hh] at hcs
    injection hcs with hcs
    injection hcs with _ h2
    cases h2
  have HNE := Aside0.mk hne
  clear hh hR hne
  go_enter Tryz.func53, Tryz.ntmps53
  go_wp2_with fail
  go_region_law (refine Kd.R_append_step k24 (w0 := w) base rfl (.tmp 12) (.tmp 21) 33 24 _ 40 rfl Tryz.underlying33 info24 rfl (by decide) (by decide) v x.out ⟨kind, val, x.at_, tt⟩ [.int .i64 kind, .string val, .int .i64 x.at_, .int .i64 tt] (fun _ => True) (fun _ => False) (by simp [Act.eval, Act.put]) (by simp [Act.eval, Act.put]) (k24_mkM _ _ _ _) (fun _ hk => hk.elim) (fun _ _ => trivial) (Kd.R_drewN HR.out 1) (pw_below_drewN (Below.refl _ _) 1) hbase hl ?_; intro v1 w1 hR1 hB1 hgrow hat; obtain ⟨A1, cp1, rfl, hc1, hC1⟩ := Kd.R_reads hR1; have hw1 : w1.heap[g]? = some (.cells #[.string x.s, .int .i64 x.at_, v, .bool x.bad, .bool x.unsure] 67 (0, 0)) := (hgrow.block g hlt HNE.out).trans HH.out; have d2 := blk_cell hw1 2; have f2 := blk_frozen hw1 2; have d1 := blk_cell hw1 1; have f1 := blk_frozen hw1 1)
  all_goals
    have hw2 : (w1.setCell ⟨g, 2, none⟩ (.slice A1 (x.out.length + 1) cp1)).heap[g]? = some (.cells #[.string x.s, .int .i64 x.at_, .slice A1 (x.out.length + 1) cp1, .bool x.bad, .bool x.unsure] 67 (0, 0)) := (blk_set hw1 2 _).trans rfl
    have e1 := (blk_cell hw2 1).trans rfl
    have g1 := blk_frozen hw2 1
    have hR2 := Kd.R_set hR1 hw1 k24_E 2 (.slice A1 (x.out.length + 1) cp1)
    have hX : Lx (w1.setCell ⟨g, 2, none⟩ (.slice A1 (x.out.length + 1) cp1)) base g { x with out := x.out ++ [⟨kind, val, x.at_, tt⟩] } := ⟨_, hw2, hg, by simpa using hR2⟩
    have HX := Aside0.mk hX
    have HB1 := Aside0.mk hB1
    clear hX hR2 hw2 hw1 d1 d2 f1 f2 hR1 hC1 hat hgrow hB1
    go_wp2_with fail
    go_end0
    exact ⟨rfl, HX.out.set1 _, (HB1.out.setCell hg _).setCell hg _⟩
/-- The byte at a place; 0 behind the end. -/
def nx (s : ByteArray) (i : Int) : Int := if i < (s.size : Int) then bt s i else 0
set_option maxHeartbeats 400000 in
theorem next_any (base g : Nat) (x : LS) (i : Int) (w : World) (h : Lx w base g x) (hi : 0 ≤ i) :
    Calls Tryz.prog 62 #[.pointer (some ⟨g, 0, none⟩), .int .i64 i] w fun e w' => e = .returned (.int .u8 (nx x.s i)) ∧ ∃ m, w.drewN m = w' := by
  obtain ⟨v, c0, c1, c2, c3, c4, fz⟩ := h.cells
  clear h
  by_cases hlt : i < (x.s.size : Int)
  · have hx := bt_at x.s i
    have hnx : nx x.s i = bt x.s i := if_pos hlt
    have HN := Aside0.mk hnx
    clear hnx
    go_enter Tryz.func62, Tryz.ntmps62
    go_wp2_with fail
    all_goals
      go_ret
      rw [HN.out]
      exact ⟨rfl, 0, rfl⟩
  · have hnx : nx x.s i = 0 := if_neg hlt
    have HN := Aside0.mk hnx
    clear hnx
    go_enter Tryz.func62, Tryz.ntmps62
    go_wp2_with fail
    all_goals
      go_ret
      rw [HN.out]
      exact ⟨rfl, 0, rfl⟩
set_option maxHeartbeats 400000 in
theorem fail_any (base g : Nat) (x : LS) (w : World) (h : Lx w base g x) :
    Calls Tryz.prog 54 #[.pointer (some ⟨g, 0, none⟩)] w fun e w' => e = .returned (.tuple #[]) ∧ Lx w' base g { x with bad := true } ∧ Below base w w' := by
  have HX := Aside0.mk h
  obtain ⟨v, c0, c1, c2, c3, c4, fz⟩ := h.cells
  clear h
  go_enter Tryz.func54, Tryz.ntmps54
  go_wp2_with fail
  go_end0
  exact ⟨rfl, HX.out.set3 _, HX.out.bset (Below.refl _ _) 3 _⟩
set_option maxHeartbeats 400000 in
theorem enc_any (c : Int) (w : World) (hc0 : 0 ≤ c) (hc1 : c ≤ 1114111) :
    Calls Tryz.prog 94 #[.int .i64 c] w fun e w' => e = .returned (.string (Utf8.encode c)) ∧ Below w.heap.size w w' := by
  have hw : IntKind.i32.wrap c = c := by rw [i32_w]; unfold wrap32; omega
  have kr := run_convert_runes (P := Tryz.prog) (w.alloc (.cells #[.int .i32 (IntKind.i32.wrap c)] 21)) 232 9 21 ⟨w.heap.size, 0, none⟩ 1 1 [IntKind.i32.wrap c] (by simp) Tryz.underlying232 Tryz.underlying21 Tryz.underlying9 (by intro j hj; simp at hj; subst hj; rw [show (⟨w.heap.size, 0, none⟩ : Addr).add 0 = ⟨w.heap.size, 0, none⟩ from rfl, World.cell?_alloc_new]; rfl)
  have hre : runesBytes ([IntKind.i32.wrap c].take 1) = Utf8.encode c := by
    rw [hw]; simp [runesBytes]
  rw [hre] at kr
  clear hre
  rw [hw] at kr
  go_enter Tryz.func94, Tryz.ntmps94
  go_wp2_with fail
  go_ret
  exact ⟨rfl, below_alloc (Below.refl _ _) _⟩
end Go.Proofs.YtbobbognjmofdaaGreatDoor.Lex
