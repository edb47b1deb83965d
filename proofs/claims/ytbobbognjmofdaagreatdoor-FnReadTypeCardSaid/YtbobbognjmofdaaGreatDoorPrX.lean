/-
  FnReadType: the thin package's ReadType, the law's comparison, and the law itself, walked.
-/
import Derived.Test.YtbobbognjmofdaaGreatDoorPrU
import Derived.Test.YtbobbognjmofdaaGreatDoorPrY
namespace Go.Proofs.YtbobbognjmofdaaGreatDoor.Lex
open Go.RowKit Go.Proofs.YtbobbognjmofdaaGreatDoorW.PrintWords Go.Proofs.YtbobbognjmofdaaGreatDoorW.PrintLast Go.Proofs.YtbobbognjmofdaaGreatDoorW.PrintMore
open Go.Proofs.YtbobbognjmofdaaGreatDoor.Ptext
set_option linter.unusedVariables false
set_option linter.unusedSimpArgs false
/-- What the thin package says of what stands at the beginning of a text. -/
def ImplR (s : ByteArray) (l : List S24) (bad : Bool) (R : List S50 × PS) (base : Nat) (e : Ending) (w' : World) : Prop :=
  (Refd l bad R.2 ∧ e = .returned (.tuple #[.slice none 0 0, .int .i64 0, .bool false])) ∨
  (R.2.bad = false ∧ ∃ (j : Nat) (t' : S24) (v : Value), R.2.at_ = j ∧ At s l bad j t' ∧ e = .returned (.tuple #[v, .int .i64 t'.f2, .bool true]) ∧ k50.R 50 w' base (fun _ => True) v R.1)
set_option maxHeartbeats 4000000 in
theorem implReadType_any (s : ByteArray) (l : List S24) (bad : Bool) (w : World) (hT : Lib.Utf8Tabs 1 2 w) (hs : s.size ≤ 2000) (hR : lexR s = (l, bad, false)) (hu : (typd 62 l ps0).2.unsure = false) :
    Calls Tryz.prog 22 #[.string s] w fun e w' => ImplR s l bad (typd 62 l ps0) w.heap.size e w' ∧ Below w.heap.size w w' := by
  have HD := Aside0.mk (doorReadType_any s l bad w hT hs hR hu)
  have hll := lexR_length hs hR
  have hok : PS.ok l ps0 := ⟨Int.le_refl _, by show (0 : Int) ≤ _; omega, by omega⟩
  have hmany := (typd_keeps l 62 ps0 hok).2.2.2
  obtain ⟨R, hRR⟩ : ∃ R, R = typd 62 l ps0 := ⟨_, rfl⟩
  rw [← hRR] at HD hmany ⊢
  have HMANY := Aside0.mk hmany
  clear hT hR hu hok hRR hmany
  go_enter Tryz.func22, Tryz.ntmps22
  go_wp2_with fail
  refine HD.out.mono ?_
  rintro e w1 ⟨h1, hb1⟩
  have HB1 := Aside0.mk hb1
  clear hb1
  rcases h1 with ⟨href, a, q, rfl⟩ | ⟨hbf, v, ty, t', j, rfl, hrep, hn, ha, hat⟩
  · have HREF := Aside0.mk href
    clear href
    go_wp2_with fail
    go_ret3
    exact ⟨.inl ⟨HREF.out, rfl⟩, below_then HB1.out HB1.out.size (below_alloc (Below.refl _ _) _)⟩
  · have HF := Aside0.mk (And.intro hbf (And.intro ha hat))
    have HREP := Aside0.mk hrep
    have HN := Aside0.mk hn
    clear hbf ha hat hrep hn
    have HTY : Aside0 (∀ W, Below w1.heap.size w1 W → W.heap[w1.heap.size]? = some (.cells #[.slice none 0 0, .slice none 0 0, .bool false] 87 (0, 0)) → Calls Tryz.prog 44 #[.pointer (some ⟨w1.heap.size, 0, none⟩), v] W fun e w' => e = .returned (.tuple #[]) ∧ Tk w' w.heap.size w1.heap.size ([] ++ ty.nodes) ∧ Below w.heap.size W w' ∧ KeepX W w') :=
      ⟨fun W hW hE => typ_any w.heap.size w1.heap.size ty v [] W ⟨_, _, [], hE, HB1.out.size, Kd.R_nil _ _ _ _ _, Kd.R_nil _ _ _ _ _, rfl⟩ (Nat.le_trans HB1.out.size hW.size) (HREP.out.keep (KeepT.of_below hW)) (by have := HMANY.out; rw [HN.out, Ty.many_eq] at this; simp; omega)⟩
    obtain ⟨vT, vX, rfl⟩ := HREP.out.iface
    go_wp2_with fail
    go_at_call 44
    refine (HTY.out _ (below_alloc (Below.refl _ _) _) (blk_new _ _)).mono ?_
    rintro e w2 ⟨rfl, hT2, hb2, hk2⟩
    obtain ⟨v1, v2, sp, hE, hg, r1, -, -⟩ := hT2
    have c0 := (blk_cell hE 0).trans rfl
    have c2 := (blk_cell hE 2).trans rfl
    have HR1 : Aside0 (k50.R 50 w2 w.heap.size (fun _ => True) v1 R.1) := ⟨by rw [HN.out]; exact r1⟩
    have HB2 := Aside0.mk ((below_then HB1.out HB1.out.size (below_alloc (Below.refl _ _) _)).trans hb2)
    clear hE hg r1 hb2 hk2
    go_wp2_with fail
    go_ret3
    exact ⟨.inr ⟨HF.out.1, j, t', v1, HF.out.2.1, HF.out.2.2, rfl, HR1.out⟩, HB2.out⟩
end Go.Proofs.YtbobbognjmofdaaGreatDoor.Lex
