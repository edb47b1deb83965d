/-
  The contract of printer.Block (a block of texts in lines of their own), and of the functions over interface values beneath, out of their walks: for lists of at most 50 texts.
-/
import Derived.Test.YtknbpibjjhcdiacQFnBlockx1
namespace Go.Proofs.Ytknbpibjjhcdiac.PFnBlock
open Go.RowKit Go.Proofs.YtknbpibjjhcdiacW.PrintWords Go.Proofs.YtknbpibjjhcdiacW.PrintLast Go.Proofs.YtknbpibjjhcdiacW.PrintMore
set_option linter.unusedVariables false
set_option linter.unusedSimpArgs false
set_option maxHeartbeats 400000 in
theorem toSlice_any (A : Option Addr) (c : Nat) (l : List ByteArray) (w : World) (hr : Kd.C Kd.string w A l.length l) (hc : l.length ≤ c) (hl : l.length ≤ 50) :
    Calls Try.prog 9 #[.iface 22 (.slice A l.length c)] w fun e w' => ∃ v, e = .returned v ∧ Kd.R Kd.string 9 w' w.heap.size (fun _ => True) v l ∧ Below w.heap.size w w' := by
  have HR := Aside0.mk hr
  clear hr
  have t1 : ∀ (W : World) (v : Value), (Instr.typeAssert (.iface 22 v) 20 29 true).run Try.prog W = .ok (.tuple #[.slice none 0 0, .bool false]) W := fun W v => by kernel_rfl
  have t2 : ∀ (W : World) (v : Value), (Instr.typeAssert (.iface 22 v) 20 22 true).run Try.prog W = .ok (.tuple #[v, .bool true]) W := fun W v => by kernel_rfl
  have HO := Aside0.mk (show Kd.R Kd.string 9 (w.alloc (.cells #[] 9)) w.heap.size (fun _ => True) (.slice (some ⟨w.heap.size, 0, none⟩) 0 0) [] from Kd.R_of_own (World.ownsRow_lit w #[] 0 (Nat.le_refl _) (Nat.zero_le _) rfl) (fun _ _ => trivial))
  go_enter Try.func9, Try.ntmps9
  go_wp2_with (at_builtin; refine Kd.R_append_rows Kd.string (w0 := w) w.heap.size rfl (.tmp 35) (.tmp 36) 22 9 (.string ⟨#[]⟩) 16 rfl Try.underlying22 info9 rfl (by decide) (by omega) (.slice (some ⟨w.heap.size, 0, none⟩) 0 0) [] l A l.length c (fun _ => True) (fun _ => False) rfl rfl HO.out (Kd.C_below HR.out (below_alloc (Below.refl _ _) _)) (fun _ _ h => h) (fun _ h => h.elim) (fun _ _ => trivial) (below_alloc (Below.refl _ _) _) (by simp) (by simp; omega) ?_; intro v1 w1 ho hb hg hat; have HO1 := Aside0.mk ho; have HB1 := Aside0.mk hb; clear ho hb hg hat)
  go_ret
  exact ⟨_, rfl, HO1.out, HB1.out⟩

set_option maxHeartbeats 400000 in
theorem indent_any (k : Nat) (s r : ByteArray) (w : World) (h : printer_zzIndent.f k s = some r) :
    Calls Try.prog 10 #[.iface 9 (.string s)] w fun e w' => e = .returned (.string r) ∧ Below w.heap.size w w' := by
  have H := Aside0.mk h
  clear h
  have t2 : ∀ (W : World) (v : Value), (Instr.typeAssert (.iface 9 v) 20 9 true).run Try.prog W = .ok (.tuple #[v, .bool true]) W := fun W v => by kernel_rfl
  go_enter Try.func10, Try.ntmps10
  go_wp2_with fail
  refine (printer_zzIndent.calls k s r _ H.out).mono ?_
  rintro e w1 ⟨rfl, hb⟩
  have HB := Aside0.mk hb
  clear hb
  go_wp2_with fail
  go_ret
  exact ⟨rfl, HB.out⟩

/-- What printer.Block makes of its texts. -/
def printer_Block.f (k : Nat) (l : List ByteArray) : Option ByteArray :=
  if l.length ≤ 50 then
    if l = [] then some ⟨#[123, 125]⟩
    else (printer_join.f k l ⟨#[10]⟩).bind fun t => if t.size ≤ 1000000 then (printer_zzIndent.f k (⟨#[123, 10]⟩ ++ t)).bind fun u => if u.size ≤ 1000000 then some (u ++ ⟨#[10, 125]⟩) else none else none
  else none
theorem printer_Block.mono : ∀ l0 k, LeO (printer_Block.f k l0) (printer_Block.f (k + 1) l0) := by
  intro l k
  unfold printer_Block.f
  refine LeO.ite (LeO.ite (LeO.refl _) (LeO.bind (printer_join.mono _ _ _) fun t => LeO.ite (LeO.bind (printer_zzIndent.mono _ _) fun u => LeO.refl _) (LeO.none _))) (LeO.none _)

set_option maxHeartbeats 400000 in
theorem block_some (k : Nat) (A : Option Addr) (c : Nat) (l : List ByteArray) (t u : ByteArray) (w : World) (hr : Kd.C Kd.string w A l.length l) (hc : l.length ≤ c) (hl : l.length ≤ 50) (h0 : 0 < l.length)
    (hj : printer_join.f k l ⟨#[10]⟩ = some t) (hz : printer_zzIndent.f k (⟨#[123, 10]⟩ ++ t) = some u) (ht : t.size ≤ 1000000) (hu : u.size ≤ 1000000) :
    Calls Try.prog 8 #[.iface 22 (.slice A l.length c)] w fun e w' => e = .returned (.string (u ++ ⟨#[10, 125]⟩)) ∧ Below w.heap.size w w' := by
  have HR := Aside0.mk hr
  have HJ := Aside0.mk hj
  have HZ := Aside0.mk hz
  clear hr hj hz
  go_enter Try.func8, Try.ntmps8
  go_wp2_with fail
  refine (toSlice_any A c l _ HR.out hc hl).mono ?_
  rintro e w1 ⟨v, rfl, hv, hb⟩
  obtain ⟨A1, c1, rfl, hc1, hC1⟩ := Kd.R_reads hv
  have HB := Aside0.mk hb
  have HC := Aside0.mk hC1
  clear hv hb hC1
  have hne : ((l.length : Int) == 0) = false := beq_eq_false_iff_ne.2 (by omega)
  go_wp2_with fail
  refine (printer_join.calls k A1 c1 l _ t _ HC.out hc1 HJ.out).mono ?_
  rintro e w2 ⟨rfl, hb2⟩
  have HB2 := Aside0.mk (below_step HB.out hb2)
  clear hb2
  go_wp2_with fail
  refine (indent_any k _ u _ HZ.out).mono ?_
  rintro e w3 ⟨rfl, hb3⟩
  have HB3 := Aside0.mk (below_step HB2.out hb3)
  clear hb3
  go_wp2_with fail
  go_ret
  exact ⟨rfl, HB3.out⟩

set_option maxHeartbeats 400000 in
theorem block_none (A : Option Addr) (c : Nat) (w : World) (hr : Kd.C Kd.string w A ([] : List ByteArray).length []) :
    Calls Try.prog 8 #[.iface 22 (.slice A ([] : List ByteArray).length c)] w fun e w' => e = .returned (.string ⟨#[123, 125]⟩) ∧ Below w.heap.size w w' := by
  have HR := Aside0.mk hr
  clear hr
  go_enter Try.func8, Try.ntmps8
  go_wp2_with fail
  refine (toSlice_any A c [] _ HR.out (Nat.zero_le _) (by simp)).mono ?_
  rintro e w1 ⟨v, rfl, hv, hb⟩
  obtain ⟨A1, c1, rfl, hc1, hC1⟩ := Kd.R_reads hv
  have HB := Aside0.mk hb
  clear hv hb hC1
  go_wp2_with fail
  go_ret
  exact ⟨rfl, HB.out⟩

set_option maxHeartbeats 400000 in
theorem printer_Block.calls (k : Nat) (A0 : Option Addr) (c0 : Nat) (l0 : List ByteArray) (r : ByteArray) (w : World) (hr0 : Kd.C Kd.string w A0 l0.length l0) (hc0 : l0.length ≤ c0) (h : printer_Block.f k l0 = some r) :
    Calls Try.prog 7 #[.slice A0 l0.length c0] w fun e w' => e = .returned (.string r) ∧ Below w.heap.size w w' := by
  have key : Calls Try.prog 8 #[.iface 22 (.slice A0 l0.length c0)] w fun e w' => e = .returned (.string r) ∧ Below w.heap.size w w' := by
    unfold printer_Block.f at h
    split at h
    · rename_i hl
      split at h
      · rename_i h0
        obtain rfl := Option.some.inj h
        subst h0
        exact block_none A0 c0 w hr0
      · rename_i h0
        obtain ⟨t, hj, h⟩ := Option.bind_eq_some_iff.1 h
        split at h
        · rename_i ht
          obtain ⟨u, hz, h⟩ := Option.bind_eq_some_iff.1 h
          split at h
          · rename_i hu
            obtain rfl := Option.some.inj h
            exact block_some k A0 c0 l0 t u w hr0 hc0 hl (List.length_pos_iff.2 h0) hj hz ht hu
          · cases h
        · cases h
    · cases h
  have HK := Aside0.mk key
  clear key h hr0
  go_enter Try.func7, Try.ntmps7
  go_wp2_with fail
  refine HK.out.mono ?_
  rintro e w1 ⟨rfl, hb⟩
  have HB := Aside0.mk hb
  clear hb
  go_wp2_with fail
  go_ret
  exact ⟨rfl, HB.out⟩

end Go.Proofs.Ytknbpibjjhcdiac.PFnBlock
