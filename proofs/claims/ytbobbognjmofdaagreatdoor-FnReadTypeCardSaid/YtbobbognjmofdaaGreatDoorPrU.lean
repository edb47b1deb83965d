/-
  The thin package's taker over types, and its door to types, walked.
-/
import Derived.Test.YtbobbognjmofdaaGreatDoorPrT
import Derived.Test.YtbobbognjmofdaaGreatDoorPrK
namespace Go.Proofs.YtbobbognjmofdaaGreatDoor.Lex
open Go.RowKit Go.Proofs.YtbobbognjmofdaaGreatDoorW.PrintWords Go.Proofs.YtbobbognjmofdaaGreatDoorW.PrintLast Go.Proofs.YtbobbognjmofdaaGreatDoorW.PrintMore
open Go.Proofs.YtbobbognjmofdaaGreatDoor.Ptext
set_option linter.unusedVariables false
set_option linter.unusedSimpArgs false
set_option maxHeartbeats 400000 in
/-- The text of a name, and of a named type. -/
theorem ntext_any (r : Nat) (n : ByteArray) (w : World) (h : NameAt w r n) :
    Calls Tryz.prog 84 #[.pointer (some ⟨r, 0, none⟩)] w fun e w' => e = .returned (.string n) ∧ w = w' := by
  obtain ⟨k, u, h⟩ := h
  have c2 := (blk_cell h 2).trans rfl
  clear h
  go_enter Tryz.func84, Tryz.ntmps84
  go_wp2_with fail
  go_ret
  exact ⟨rfl, rfl⟩
set_option maxHeartbeats 400000 in
theorem on_any (r : Nat) (n : ByteArray) (w : World) (h : NamedAt w r n) :
    Calls Tryz.prog 76 #[.pointer (some ⟨r, 0, none⟩)] w fun e w' => e = .returned (.string n) ∧ w = w' := by
  obtain ⟨k, q, x, h, hq, hx⟩ := h
  have c2 := (blk_cell h 2).trans rfl
  have HX := Aside0.mk (ntext_any x n w hx)
  clear h hq hx
  go_enter Tryz.func76, Tryz.ntmps76
  go_wp2_with fail
  refine HX.out.mono ?_
  rintro e w' ⟨rfl, rfl⟩
  go_wp2_with fail
  go_ret
  exact ⟨rfl, rfl⟩
theorem run_assert_is {P : Program} {t e : TypeId} (hu : P.underlying t = some (.pointer e)) (v : Value) (xT : TypeId) (w : World) : (Instr.typeAssert (.iface t v) xT t true).run P w = .ok (.tuple #[v, .bool true]) w := by
  simp [Instr.typeAssert, run_underlying hu]
theorem run_assert_not {P : Program} {t t' e : TypeId} {z : Value} (hu : P.underlying t = some (.pointer e)) (hne : t' ≠ t) (hz : (P.info? t).map (·.zero) = some (some z)) (v : Value) (xT : TypeId) (w : World) : (Instr.typeAssert (.iface t' v) xT t true).run P w = .ok (.tuple #[z, .bool false]) w := by
  obtain ⟨i, hi, hzi⟩ := Option.map_eq_some_iff.1 hz
  simp [Instr.typeAssert, run_underlying hu, hne, zeroValue, typeInfo, hi, hzi]
theorem zero126 : (Tryz.prog.info? 126).map (·.zero) = some (some (.pointer none)) := by kernel_rfl
theorem zero133 : (Tryz.prog.info? 133).map (·.zero) = some (some (.pointer none)) := by kernel_rfl
/-- What the taker needs of a type: how many nodes it has. -/
def Ty.many : Ty → Nat
  | .named _ => 1
  | .list t => t.many + 1
  | .must t => t.many + 1
theorem Ty.many_eq (t : Ty) : t.nodes.length = t.many := by
  induction t with
  | named n => rfl
  | list t ih => show ([t.nodes].flatten).length + 1 = _; simp [ih, Ty.many]
  | must t ih => show ([t.nodes].flatten).length + 1 = _; simp [ih, Ty.many]
set_option maxRecDepth 8000 in
set_option maxHeartbeats 4000000 in
/-- A named type taken. -/
theorem typ_named (base g : Nat) (n : ByteArray) (v : Value) (d : List S50) (w : World) (h : Tk w base g d) (hb : base ≤ w.heap.size) (hv : RepT w (.named n) v) (hlen : d.length + 1 ≤ 100000) :
    Calls Tryz.prog 44 #[.pointer (some ⟨g, 0, none⟩), v] w fun e w' => e = .returned (.tuple #[]) ∧ Tk w' base g (d ++ (Ty.named n).nodes) ∧ Below base w w' ∧ KeepX w w' := by
  obtain ⟨p, rfl, hn⟩ := hv
  have HT := Aside0.mk h
  have HN := Aside0.mk hn
  obtain ⟨k, q, x, h1, hq, hx⟩ := hn
  have c1 := (blk_cell h1 1).trans rfl
  have hpl := blk_lt h1
  have HQ := Aside0.mk hq
  clear h h1 hx hq
  have HON := Aside0.mk (fun W (hw : Below w.heap.size w W) => on_any p n W (HN.out.keep (KeepT.of_below hw)))
  have HPU := Aside0.mk (fun W (hw : Below w.heap.size w W) => put_any base g q (nd 20 n) d [] .nilFunc W (HT.out.below hw) (Nat.le_trans hb hw.size) (HQ.out.below hw) (by simpa using hlen) (.inl ⟨rfl, rfl⟩))
  have ta := run_assert_is Tryz.underlying126 (.pointer (some ⟨p, 0, none⟩))
  go_enter Tryz.func44, Tryz.ntmps44
  go_wp2_with fail
  go_region_with (first | (go_at_call 76; refine (HON.out _ ?_).mono ?_; (first | exact below_drew (below_alloc (Below.refl _ _) _)); rintro e w2 ⟨rfl, rfl⟩) | (go_at_call 75; refine (HPU.out _ ?_).mono ?_; (first | exact below_drew (below_alloc (Below.refl _ _) _)); rintro e w3 ⟨rfl, hT3, hB3, hK3⟩; have HT3 := Aside0.mk hT3; have HB3 := Aside0.mk hB3; have HK3 := Aside0.mk hK3; clear hT3 hB3 hK3))
  all_goals
    go_wp2_with fail
    go_end0
    have hb1 : Below w.heap.size w (w.alloc (.cells #[.pointer (some ⟨g, 0, none⟩)] 84)).drew := below_drew (below_alloc (Below.refl _ _) _)
    exact ⟨rfl, HT3.out, (hb1.mono hb).trans HB3.out, (KeepX.of_below hb1).trans HK3.out⟩
set_option maxHeartbeats 1000000 in
theorem clos_list (base g p tb xb : Nat) (k : ByteArray) (l u : Value) (d kids : List S50) (W : World) (h1 : W.heap[tb]? = some (.cells #[.pointer (some ⟨g, 0, none⟩)] 84 (0, 0))) (h2 : W.heap[xb]? = some (.cells #[.pointer (some ⟨p, 0, none⟩)] 133 (0, 0))) (h3 : W.heap[p]? = some (.cells #[.string k, l, u] 135 (0, 0))) (hT : Tk W base g d) (hb : base ≤ W.heap.size)
    (HC : ∀ W', Tk W' base g d → KeepX W W' → base ≤ W'.heap.size → Calls Tryz.prog 44 #[.pointer (some ⟨g, 0, none⟩), u] W' fun e w' => e = .returned (.tuple #[]) ∧ Tk w' base g (d ++ kids) ∧ Below base W' w' ∧ KeepX W' w') :
    Calls Tryz.prog 77 #[.pointer (some ⟨tb, 0, none⟩), .pointer (some ⟨xb, 0, none⟩)] W fun e w' => e = .returned (.tuple #[]) ∧ Tk w' base g (d ++ kids) ∧ Below base W w' ∧ KeepX W w' := by
  have HCC := Aside0.mk HC
  have HT := Aside0.mk hT
  have c1 := (blk_cell h1 0).trans rfl
  have c2 := (blk_cell h2 0).trans rfl
  have c3 := (blk_cell h3 2).trans rfl
  clear h1 h2 h3 hT HC
  go_enter Tryz.func77, Tryz.ntmps77
  go_wp2_with fail
  go_region_with (go_at_call 44; refine (HCC.out _ ?_ ?_ ?_).mono ?_; exact HT.out.below (below_drew (Below.refl _ _)); exact KeepX.of_below (below_drew (Below.refl _ _)); exact hb; rintro e w3 ⟨rfl, hT3, hB3, hK3⟩; have HT3 := Aside0.mk hT3; have HB3 := Aside0.mk hB3; have HK3 := Aside0.mk hK3; clear hT3 hB3 hK3)
  all_goals
    go_wp2_with fail
    go_end0
    exact ⟨rfl, HT3.out, (below_drew (Below.refl base W)).trans HB3.out, (KeepX.of_below (below_drew (Below.refl _ _))).trans HK3.out⟩
set_option maxHeartbeats 1000000 in
theorem clos_must (base g p tb xb : Nat) (k : ByteArray) (l u : Value) (d kids : List S50) (W : World) (h1 : W.heap[tb]? = some (.cells #[.pointer (some ⟨g, 0, none⟩)] 84 (0, 0))) (h2 : W.heap[xb]? = some (.cells #[.pointer (some ⟨p, 0, none⟩)] 136 (0, 0))) (h3 : W.heap[p]? = some (.cells #[.string k, l, u] 137 (0, 0))) (hT : Tk W base g d) (hb : base ≤ W.heap.size)
    (HC : ∀ W', Tk W' base g d → KeepX W W' → base ≤ W'.heap.size → Calls Tryz.prog 44 #[.pointer (some ⟨g, 0, none⟩), u] W' fun e w' => e = .returned (.tuple #[]) ∧ Tk w' base g (d ++ kids) ∧ Below base W' w' ∧ KeepX W' w') :
    Calls Tryz.prog 78 #[.pointer (some ⟨tb, 0, none⟩), .pointer (some ⟨xb, 0, none⟩)] W fun e w' => e = .returned (.tuple #[]) ∧ Tk w' base g (d ++ kids) ∧ Below base W w' ∧ KeepX W w' := by
  have HCC := Aside0.mk HC
  have HT := Aside0.mk hT
  have c1 := (blk_cell h1 0).trans rfl
  have c2 := (blk_cell h2 0).trans rfl
  have c3 := (blk_cell h3 2).trans rfl
  clear h1 h2 h3 hT HC
  go_enter Tryz.func78, Tryz.ntmps78
  go_wp2_with fail
  go_region_with (go_at_call 44; refine (HCC.out _ ?_ ?_ ?_).mono ?_; exact HT.out.below (below_drew (Below.refl _ _)); exact KeepX.of_below (below_drew (Below.refl _ _)); exact hb; rintro e w3 ⟨rfl, hT3, hB3, hK3⟩; have HT3 := Aside0.mk hT3; have HB3 := Aside0.mk hB3; have HK3 := Aside0.mk hK3; clear hT3 hB3 hK3)
  all_goals
    go_wp2_with fail
    go_end0
    exact ⟨rfl, HT3.out, (below_drew (Below.refl base W)).trans HB3.out, (KeepX.of_below (below_drew (Below.refl _ _))).trans HK3.out⟩
set_option maxRecDepth 8000 in
set_option maxHeartbeats 4000000 in
theorem typ_list (base g : Nat) (ty : Ty) (v : Value) (d : List S50) (w : World) (h : Tk w base g d) (hb : base ≤ w.heap.size) (hv : RepT w (.list ty) v) (hlen : d.length + ty.many + 1 ≤ 100000)
    (IH : ∀ (u : Value) (d' : List S50) (W : World), Tk W base g d' → base ≤ W.heap.size → RepT W ty u → d'.length + ty.many ≤ 100000 → Calls Tryz.prog 44 #[.pointer (some ⟨g, 0, none⟩), u] W fun e w' => e = .returned (.tuple #[]) ∧ Tk w' base g (d' ++ ty.nodes) ∧ Below base W w' ∧ KeepX W w') :
    Calls Tryz.prog 44 #[.pointer (some ⟨g, 0, none⟩), v] w fun e w' => e = .returned (.tuple #[]) ∧ Tk w' base g (d ++ (Ty.list ty).nodes) ∧ Below base w w' ∧ KeepX w w' := by
  obtain ⟨p, k, q, u, rfl, hp, hq, hu⟩ := hv
  have HU := Aside0.mk hu
  have HP := Aside0.mk hp
  have HPU := Aside0.mk (fun W (hw : Below w.heap.size w W) (h1 : W.heap[w.heap.size]? = some (.cells #[.pointer (some ⟨g, 0, none⟩)] 84 (0, 0))) (h2 : W.heap[w.heap.size + 1]? = some (.cells #[.pointer (some ⟨p, 0, none⟩)] 133 (0, 0))) =>
    put_any base g q (nd 21 ⟨#[]⟩) d ty.nodes (.func (.func 77) #[] #[.pointer (some ⟨w.heap.size, 0, none⟩), .pointer (some ⟨w.heap.size + 1, 0, none⟩)]) W (h.below hw) (Nat.le_trans hb hw.size) (hq.below hw) (by rw [Ty.many_eq]; omega)
      (.inr ⟨77, _, rfl, by decide, fun W' hT' hK' hB' => clos_list base g p w.heap.size (w.heap.size + 1) k (.pointer (some ⟨q, 0, none⟩)) u (d ++ [nd 21 ⟨#[]⟩]) ty.nodes W' (hK' _ _ _ h1 (by decide) (by decide) (by decide)) (hK' _ _ _ h2 (by decide) (by decide) (by decide)) (hK' _ _ _ (blk_below hp hw) (by decide) (by decide) (by decide)) hT' (Nat.le_trans (Nat.le_trans hb hw.size) hB'.size)
        (fun W'' hT'' hK'' hb'' => IH u (d ++ [nd 21 ⟨#[]⟩]) W'' hT'' hb'' (((hu.keep (KeepT.of_below hw)).keepX hK').keepX hK'') (by simp; omega))⟩))
  have c1 := (blk_cell hp 1).trans rfl
  have hpl := blk_lt hp
  clear h hp hq hu IH
  have t1 := run_assert_not Tryz.underlying126 (show 133 ≠ 126 by decide) zero126 (.pointer (some ⟨p, 0, none⟩))
  have t2 := run_assert_is Tryz.underlying133 (.pointer (some ⟨p, 0, none⟩))
  go_enter Tryz.func44, Tryz.ntmps44
  go_wp2_with fail
  go_region_with (go_at_call 75; refine (HPU.out _ ?_ ?_ ?_).mono ?_; exact below_drew (below_alloc (below_alloc (Below.refl _ _) _) _); exact blk_alloc (blk_new w _) _; exact blk_new2 w _ _; rintro e w3 ⟨rfl, hT3, hB3, hK3⟩; have HT3 := Aside0.mk hT3; have HB3 := Aside0.mk hB3; have HK3 := Aside0.mk hK3; clear hT3 hB3 hK3)
  all_goals
    go_wp2_with fail
    go_end0
    have hb1 : Below w.heap.size w ((w.alloc (.cells #[.pointer (some ⟨g, 0, none⟩)] 84)).alloc (.cells #[.pointer (some ⟨p, 0, none⟩)] 133)).drew := below_drew (below_alloc (below_alloc (Below.refl _ _) _) _)
    refine ⟨rfl, ?_, (hb1.mono hb).trans HB3.out, (KeepX.of_below hb1).trans HK3.out⟩
    have := HT3.out
    rw [show (Ty.list ty).nodes = { nd 21 ⟨#[]⟩ with f5 := 1 + ty.nodes.length } :: ty.nodes from by show made _ _ = _; unfold made; simp]
    exact this
set_option maxRecDepth 8000 in
set_option maxHeartbeats 4000000 in
theorem typ_must (base g : Nat) (ty : Ty) (v : Value) (d : List S50) (w : World) (h : Tk w base g d) (hb : base ≤ w.heap.size) (hv : RepT w (.must ty) v) (hlen : d.length + ty.many + 1 ≤ 100000)
    (IH : ∀ (u : Value) (d' : List S50) (W : World), Tk W base g d' → base ≤ W.heap.size → RepT W ty u → d'.length + ty.many ≤ 100000 → Calls Tryz.prog 44 #[.pointer (some ⟨g, 0, none⟩), u] W fun e w' => e = .returned (.tuple #[]) ∧ Tk w' base g (d' ++ ty.nodes) ∧ Below base W w' ∧ KeepX W w') :
    Calls Tryz.prog 44 #[.pointer (some ⟨g, 0, none⟩), v] w fun e w' => e = .returned (.tuple #[]) ∧ Tk w' base g (d ++ (Ty.must ty).nodes) ∧ Below base w w' ∧ KeepX w w' := by
  obtain ⟨p, k, q, u, rfl, hp, hq, hu⟩ := hv
  have HU := Aside0.mk hu
  have HP := Aside0.mk hp
  have HPU := Aside0.mk (fun W (hw : Below w.heap.size w W) (h1 : W.heap[w.heap.size]? = some (.cells #[.pointer (some ⟨g, 0, none⟩)] 84 (0, 0))) (h2 : W.heap[w.heap.size + 1]? = some (.cells #[.pointer (some ⟨p, 0, none⟩)] 136 (0, 0))) =>
    put_any base g q (nd 22 ⟨#[]⟩) d ty.nodes (.func (.func 78) #[] #[.pointer (some ⟨w.heap.size, 0, none⟩), .pointer (some ⟨w.heap.size + 1, 0, none⟩)]) W (h.below hw) (Nat.le_trans hb hw.size) (hq.below hw) (by rw [Ty.many_eq]; omega)
      (.inr ⟨78, _, rfl, by decide, fun W' hT' hK' hB' => clos_must base g p w.heap.size (w.heap.size + 1) k (.pointer (some ⟨q, 0, none⟩)) u (d ++ [nd 22 ⟨#[]⟩]) ty.nodes W' (hK' _ _ _ h1 (by decide) (by decide) (by decide)) (hK' _ _ _ h2 (by decide) (by decide) (by decide)) (hK' _ _ _ (blk_below hp hw) (by decide) (by decide) (by decide)) hT' (Nat.le_trans (Nat.le_trans hb hw.size) hB'.size)
        (fun W'' hT'' hK'' hb'' => IH u (d ++ [nd 22 ⟨#[]⟩]) W'' hT'' hb'' (((hu.keep (KeepT.of_below hw)).keepX hK').keepX hK'') (by simp; omega))⟩))
  have c1 := (blk_cell hp 1).trans rfl
  have hpl := blk_lt hp
  clear h hp hq hu IH
  have t1 := run_assert_not Tryz.underlying126 (show 136 ≠ 126 by decide) zero126 (.pointer (some ⟨p, 0, none⟩))
  have t2 := run_assert_not Tryz.underlying133 (show 136 ≠ 133 by decide) zero133 (.pointer (some ⟨p, 0, none⟩))
  have t3 := run_assert_is Tryz.underlying136 (.pointer (some ⟨p, 0, none⟩))
  go_enter Tryz.func44, Tryz.ntmps44
  go_wp2_with fail
  go_region_with (go_at_call 75; refine (HPU.out _ ?_ ?_ ?_).mono ?_; exact below_drew (below_alloc (below_alloc (Below.refl _ _) _) _); exact blk_alloc (blk_new w _) _; exact blk_new2 w _ _; rintro e w3 ⟨rfl, hT3, hB3, hK3⟩; have HT3 := Aside0.mk hT3; have HB3 := Aside0.mk hB3; have HK3 := Aside0.mk hK3; clear hT3 hB3 hK3)
  all_goals
    go_wp2_with fail
    go_end0
    have hb1 : Below w.heap.size w ((w.alloc (.cells #[.pointer (some ⟨g, 0, none⟩)] 84)).alloc (.cells #[.pointer (some ⟨p, 0, none⟩)] 136)).drew := below_drew (below_alloc (below_alloc (Below.refl _ _) _) _)
    refine ⟨rfl, ?_, (hb1.mono hb).trans HB3.out, (KeepX.of_below hb1).trans HK3.out⟩
    have := HT3.out
    rw [show (Ty.must ty).nodes = { nd 22 ⟨#[]⟩ with f5 := 1 + ty.nodes.length } :: ty.nodes from by show made _ _ = _; unfold made; simp]
    exact this
theorem typ_any (base g : Nat) : ∀ (ty : Ty) (v : Value) (d : List S50) (w : World), Tk w base g d → base ≤ w.heap.size → RepT w ty v → d.length + ty.many ≤ 100000 →
    Calls Tryz.prog 44 #[.pointer (some ⟨g, 0, none⟩), v] w fun e w' => e = .returned (.tuple #[]) ∧ Tk w' base g (d ++ ty.nodes) ∧ Below base w w' ∧ KeepX w w'
  | .named n, v, d, w, h, hb, hv, hl => typ_named base g n v d w h hb hv hl
  | .list t, v, d, w, h, hb, hv, hl => typ_list base g t v d w h hb hv hl (fun u d' W => typ_any base g t u d' W)
  | .must t, v, d, w, h, hb, hv, hl => typ_must base g t v d w h hb hv hl (fun u d' W => typ_any base g t u d' W)
end Go.Proofs.YtbobbognjmofdaaGreatDoor.Lex
