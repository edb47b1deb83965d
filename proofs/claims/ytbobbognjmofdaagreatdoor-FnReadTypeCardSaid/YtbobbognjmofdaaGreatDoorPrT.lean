/-
  The thin package's taker: nodes of the package as data, walked.
-/
import Derived.Test.YtbobbognjmofdaaGreatDoorPrI
namespace Go.Proofs.YtbobbognjmofdaaGreatDoor.Lex
open Go.RowKit Go.Proofs.YtbobbognjmofdaaGreatDoorW.PrintWords Go.Proofs.YtbobbognjmofdaaGreatDoorW.PrintLast Go.Proofs.YtbobbognjmofdaaGreatDoorW.PrintMore
open Go.Proofs.YtbobbognjmofdaaGreatDoor.Ptext
set_option linter.unusedVariables false
set_option linter.unusedSimpArgs false
theorem info208 : (Tryz.prog.info? 208).map (fun i => (i.zero, i.size, i.bytes)) = some (some (.agg #[.int .i64 0, .int .i64 0]), 2, 16) := by kernel_rfl
def k208 : Kd (Int × Int) := Kd.pair (Kd.int .i64) (Kd.int .i64)
theorem k208_mkM (w : World) (base : Nat) (ok : Nat → Prop) (a b : Int) : k208.M w base ok (a, b) [.int .i64 a, .int .i64 b] := ⟨[_], [_], rfl, rfl, rfl⟩
theorem k208_ne {t : Nat} (h : t ≠ 208) : ∀ q, q ∈ 208 :: k208.E → q ≠ t := by
  have : ∀ q, q ∈ 208 :: k208.E → q = 208 := by simp [k208, Kd.pair, Kd.int, Kd.scalar]
  exact fun q hq => by rw [this q hq]; exact fun e => h e.symm
/-- The taker in memory: the nodes so far. -/
def Tk (W : World) (base g : Nat) (d : List S50) : Prop := ∃ v1 v2 sp, W.heap[g]? = some (.cells #[v1, v2, .bool false] 87 (0, 0)) ∧ base ≤ g ∧ k50.R 50 W base (fun _ => True) v1 d ∧ k208.R 208 W base (fun _ => True) v2 sp ∧ sp.length = d.length
theorem Tk.below {W W1 : World} {base g : Nat} {d : List S50} (h : Tk W base g d) (hb : Below W.heap.size W W1) : Tk W1 base g d := by
  obtain ⟨v1, v2, sp, h, hg, r1, r2, hs⟩ := h
  exact ⟨v1, v2, sp, blk_below h hb, hg, Kd.R_below r1 hb, Kd.R_below r2 hb, hs⟩
/-- What stays: all blocks but the taker's own, and rows of nodes and of places. -/
def KeepX (W W1 : World) : Prop := ∀ (k T : Nat) (cs : Array Value), W.heap[k]? = some (.cells cs T (0, 0)) → T ≠ 87 → T ≠ 50 → T ≠ 208 → W1.heap[k]? = some (.cells cs T (0, 0))
theorem KeepX.refl (W : World) : KeepX W W := fun _ _ _ h _ _ _ => h
theorem KeepX.trans {W W1 W2 : World} (h : KeepX W W1) (k : KeepX W1 W2) : KeepX W W2 := fun a T cs h0 h1 h2 h3 => k a T cs (h a T cs h0 h1 h2 h3) h1 h2 h3
theorem KeepX.of_below {W W1 : World} (h : Below W.heap.size W W1) : KeepX W W1 := fun k T cs hk _ _ _ => blk_below hk h
theorem KeepX.set {W W1 : World} (h : KeepX W W1) {g T : Nat} {cs : Array Value} (hg : W1.heap[g]? = some (.cells cs T (0, 0))) (hT : T = 87 ∨ T = 50 ∨ T = 208) (j : Nat) (u : Value) : KeepX W (W1.setCell ⟨g, j, none⟩ u) := by
  intro k T' cs' hk h1 h2 h3
  have hk1 := h k T' cs' hk h1 h2 h3
  refine blk_far (p := ⟨g, j, none⟩) hk1 (fun e => ?_) u
  have e : k = g := e
  subst e
  rw [hg] at hk1
  injection hk1 with hk1
  injection hk1 with _ a
  rcases hT with hT | hT | hT
  · exact h1 (a.symm.trans hT)
  · exact h2 (a.symm.trans hT)
  · exact h3 (a.symm.trans hT)
theorem KeepX.grown {W W1 : World} {v : Value} {E : Nat} (hg : W.grownBy W1 v.ownBlock) (ht : ∀ k, v.ownBlock = some k → ∃ cells, W.heap[k]? = some (.cells cells E (0, 0))) (hE : E = 50 ∨ E = 208) : KeepX W W1 := fun k T cs hk h1 h2 h3 => blk_grown hk hg ht (by omega)
theorem RepT.keepX {W W1 : World} (hb : KeepX W W1) : ∀ {ty : Ty} {v : Value}, RepT W ty v → RepT W1 ty v
  | .named n, v, ⟨p, e, k, q, x, h, ⟨a, b, u, hq⟩, k2, u2, hx⟩ => ⟨p, e, k, q, x, hb _ _ _ h (by decide) (by decide) (by decide), ⟨a, b, u, hb _ _ _ hq (by decide) (by decide) (by decide)⟩, k2, u2, hb _ _ _ hx (by decide) (by decide) (by decide)⟩
  | .list t, v, ⟨p, k, q, u, e, h, ⟨a, b, c, hq⟩, hu⟩ => ⟨p, k, q, u, e, hb _ _ _ h (by decide) (by decide) (by decide), ⟨a, b, c, hb _ _ _ hq (by decide) (by decide) (by decide)⟩, RepT.keepX hb hu⟩
  | .must t, v, ⟨p, k, q, u, e, h, ⟨a, b, c, hq⟩, hu⟩ => ⟨p, k, q, u, e, hb _ _ _ h (by decide) (by decide) (by decide), ⟨a, b, c, hb _ _ _ hq (by decide) (by decide) (by decide)⟩, RepT.keepX hb hu⟩
/-- A row stays where another one of another type has grown. -/
theorem R_grown {α : Type} {k : Kd α} {e base E : Nat} {ok : Nat → Prop} {W W1 : World} {v u : Value} {xs : List α} (h : k.R e W base ok u xs) (hg : W.grownBy W1 v.ownBlock) (ht : ∀ b, v.ownBlock = some b → ∃ cells, W.heap[b]? = some (.cells cells E (0, 0))) (hE : ∀ q, q ∈ e :: k.E → q ≠ E) : k.R e W1 base ok u xs :=
  Kd.R_mono (Kd.R_step (Kd.R_apart' h ht hE) (fun b hb hl => hg.block b hl hb.2)) (fun b hb => hb.1)
/-- The taker between its steps. -/
def Tk1 (w wc : World) (base g : Nat) (d : List S50) (sp : List (Int × Int)) : Prop := ∃ v1 v2, wc.heap[g]? = some (.cells #[v1, v2, .bool false] 87 (0, 0)) ∧ k50.R 50 wc base (fun _ => True) v1 d ∧ k208.R 208 wc base (fun _ => True) v2 sp ∧ Below base w wc ∧ KeepX w wc
/-- What is called within a node. -/
def Within (base g : Nat) (w : World) (d1 kids : List S50) (u : Value) : Prop :=
  (u = .nilFunc ∧ kids = []) ∨ ∃ f cap, u = .func (.func f) #[] cap ∧ (f = 77 ∨ f = 78 ∨ f = 85 ∨ f = 86 ∨ f = 87 ∨ f = 89) ∧ ∀ W, Tk W base g d1 → KeepX w W → Below base w W → Calls Tryz.prog f cap W fun e w' => e = .returned (.tuple #[]) ∧ Tk w' base g (d1 ++ kids) ∧ Below base W w' ∧ KeepX W w'
theorem run_equalIn_func_nil {P : Program} (w : World) (d : Nat) (t : TypeId) (ps rs vd) (f : Fn) (a b : Array Value) (h : P.underlying t = some (.func ps rs vd)) : (Op.equalIn (d + 1) t (.func f a b) .nilFunc).run P w = .ok false w := by
  unfold Op.equalIn
  simp [run_underlying h]
theorem run_equalIn_nilfunc {P : Program} (w : World) (d : Nat) (t : TypeId) (ps rs vd) (h : P.underlying t = some (.func ps rs vd)) : (Op.equalIn (d + 1) t .nilFunc .nilFunc).run P w = .ok true w := by
  unfold Op.equalIn
  simp [run_underlying h]
theorem neq_nil_nil (W : World) : (binOp .neq 1 .nilFunc .nilFunc).run Tryz.prog W = .ok (.bool false) W := by
  simp only [binOp]
  simp [Op.equal, Op.maxDepth, run_equalIn_nilfunc W 9999 1 _ _ _ Tryz.underlying1]
theorem neq_fn_nil (W : World) (f : FuncId) (cap : Array Value) : (binOp .neq 1 (.func (.func f) #[] cap) .nilFunc).run Tryz.prog W = .ok (.bool true) W := by
  simp only [binOp]
  simp [Op.equal, Op.maxDepth, run_equalIn_func_nil W 9999 1 _ _ _ _ _ _ Tryz.underlying1]
theorem setNode_mid (d kids : List S50) (x y : S50) : (d ++ [x] ++ kids).set d.length y = d ++ y :: kids := by
  rw [List.append_assoc, List.set_append_right _ _ (Nat.le_refl _), Nat.sub_self]
  rfl
theorem getNode_mid (d kids : List S50) (x : S50) (h : d.length < (d ++ [x] ++ kids).length) : (d ++ [x] ++ kids)[d.length] = x := by
  simp
/-- The size of the node at its place. -/
theorem Tk_size {W : World} {base g : Nat} {d kids : List S50} {x : S50} (h : Tk W base g (d ++ [x] ++ kids)) : ∃ (ad : Addr) (c : Nat) (u v2 : Value), d.length < (d ++ [x] ++ kids).length ∧ (d ++ [x] ++ kids).length ≤ c ∧
    W.heap[g]? = some (.cells #[.slice (some ad) (d ++ [x] ++ kids).length c, v2, .bool false] 87 (0, 0)) ∧ W.cell? ⟨(ad.add (d.length * 6)).block, (ad.add (d.length * 6)).off + 5, none⟩ = some u ∧
    W.frozen? ⟨(ad.add (d.length * 6)).block, (ad.add (d.length * 6)).off + 5, none⟩ = false ∧
    ∀ W1, W1 = W.setCell ⟨(ad.add (d.length * 6)).block, (ad.add (d.length * 6)).off + 5, none⟩ (.int .i64 (1 + kids.length)) → Tk W1 base g (d ++ { x with f5 := 1 + kids.length } :: kids) ∧ Below base W W1 ∧ KeepX W W1 := by
  obtain ⟨v1, v2, sp, hh, hg, hr1, hr2, hs⟩ := h
  have hlt : d.length < (d ++ [x] ++ kids).length := by rw [List.length_append, List.length_append, List.length_singleton]; omega
  have hty := Kd.R_typed hr1
  obtain ⟨g2, c, rfl, hle, hg2, hg2l, ⟨u, hu⟩, hf, hset⟩ := R50_size hr1 d.length hlt
  obtain ⟨cells2, hc2⟩ := hty g2 rfl
  have hne : g ≠ g2 := by
    intro e
    rw [e, hc2] at hh
    injection hh with hh
    injection hh with _ a
    exact absurd a (by decide)
  refine ⟨⟨g2, 0, none⟩, c, u, v2, hlt, hle, hh, ?_, ?_, fun W1 hW1 => ?_⟩
  · rw [add_plain]; exact hu
  · rw [add_plain]; exact hf
  · rw [add_plain] at hW1
    subst hW1
    refine ⟨⟨_, v2, sp, blk_far (p := ⟨g2, d.length * 6 + 5, none⟩) hh hne _, hg, ?_, Kd.R_set hr2 hc2 (k208_ne (by decide)) _ _, ?_⟩, (Below.refl _ _).setCell hg2 _, (KeepX.refl W).set hc2 (.inr (.inl rfl)) _ _⟩
    · have := hset (1 + kids.length)
      rw [setNode_mid, getNode_mid _ _ _ hlt] at this
      exact this
    · rw [hs]; simp
set_option maxRecDepth 8000 in
set_option maxHeartbeats 8000000 in
theorem put_any (base g p : Nat) (x : S50) (d kids : List S50) (u : Value) (w : World) (h : Tk w base g d) (hb : base ≤ w.heap.size) (hloc : LocAt w p) (hlen : d.length + 1 + kids.length ≤ 100000) (hin : Within base g w (d ++ [x]) kids u) :
    Calls Tryz.prog 75 #[.pointer (some ⟨g, 0, none⟩), .pointer (some ⟨p, 0, none⟩), val50 x, u] w fun e w' => e = .returned (.tuple #[]) ∧ Tk w' base g (d ++ ({ x with f5 := 1 + kids.length } :: kids)) ∧ Below base w w' ∧ KeepX w w' := by
  have HIN := Aside0.mk hin
  obtain ⟨v1, v2, sp, hh, hg, hr1, hr2, hsp⟩ := h
  obtain ⟨la, lb, lu, hl⟩ := hloc
  have HH := Aside0.mk hh
  have HR1 := Aside0.mk hr1
  have HR2 := Aside0.mk hr2
  have HLO := Aside0.mk hl
  obtain ⟨A1, cp1, rfl, hc1, -⟩ := Kd.R_reads hr1
  have c0 := (blk_cell hh 0).trans rfl
  have HSP := Aside0.mk hsp
  clear hin hh hr1 hr2 hl hc1 hsp
  obtain ⟨x0, x1, x2, x3, x4, x5⟩ := x
  have hgl := blk_lt HH.out
  go_enter Tryz.func75, Tryz.ntmps75
  go_upto_region 2 with fail
  obtain ⟨Wb, hWb⟩ : ∃ Wb, Wb = w.alloc (.cells #[.int .i64 x0, .string x1, .string x2, .string x3, .int .i64 x4, .int .i64 x5] 50) := ⟨_, rfl⟩
  have hBb : Below w.heap.size w Wb := by rw [hWb]; exact below_alloc (Below.refl _ _) _
  have hEb : Wb.heap[w.heap.size]? = some (.cells #[.int .i64 x0, .string x1, .string x2, .string x3, .int .i64 x4, .int .i64 x5] 50 (0, 0)) := by rw [hWb]; exact blk_new _ _
  rw [← hWb]
  have HBb := Aside0.mk hBb
  have HHb := Aside0.mk (blk_below HH.out hBb)
  have HR1b := Aside0.mk (Kd.R_below HR1.out hBb)
  have HR2b := Aside0.mk (Kd.R_below HR2.out hBb)
  have HLOb := Aside0.mk (blk_below HLO.out hBb)
  obtain ⟨v1, hv1⟩ : ∃ v1, v1 = Value.slice A1 d.length cp1 := ⟨_, rfl⟩
  rw [← hv1] at HHb HR1b
  clear hv1
  have b0 := (blk_cell HHb.out 0).trans rfl
  have e0 := (blk_cell hEb 0).trans rfl
  have e1 := (blk_cell hEb 1).trans rfl
  have e2 := (blk_cell hEb 2).trans rfl
  have e3 := (blk_cell hEb 3).trans rfl
  have e4 := (blk_cell hEb 4).trans rfl
  have e5 := (blk_cell hEb 5).trans rfl
  have hwb := blk_lt hEb
  have hbb : base ≤ Wb.heap.size := by omega
  have hglb := blk_lt HHb.out
  clear hWb hBb hEb c0
  have hl72 : (d.length + 1) * 72 ≤ 140737488355328 := by omega
  have HL72 := Aside0.mk hl72
  clear hl72
  go_cut [14] (fun v14 wc => Aside0 (Tk1 w wc base g (d ++ [⟨x0, x1, x2, x3, x4, x5⟩]) sp))
  case first =>
    go_region_law (refine Kd.R_append_step k50 (w0 := Wb) base rfl (.tmp 18) (.tmp 20) 41 50 _ 72 rfl Tryz.underlying41 info50 rfl (by decide) (by decide) v1 d ⟨x0, x1, x2, x3, x4, x5⟩ [.int .i64 x0, .string x1, .string x2, .string x3, .int .i64 x4, .int .i64 x5] (fun _ => True) (fun _ => False) (by simp [Act.eval, Act.put]) (by simp [Act.eval, Act.put]) (k50_mkM _ _ _ _) (fun _ hk => hk.elim) (fun _ _ => trivial) (Kd.R_drewN HR1b.out 1) (pw_below_drewN (Below.refl _ _) 1) hbb HL72.out ?_; intro v1n w1 hR1 hB1 hgrow hat; obtain ⟨A1n, cp1n, rfl, -, -⟩ := Kd.R_reads hR1; simp only [List.length_append, List.length_cons, List.length_nil, Nat.zero_add] at hR1; have hw1 := blk_grown (w := Wb.drewN 1) HHb.out hgrow (Kd.R_typed (Kd.R_drewN HR1b.out 1)) (by decide); have y0 := (blk_cell hw1 0).trans rfl; have fy := fun j => blk_frozen hw1 j; have HR1n := Aside0.mk hR1; have HB1n := Aside0.mk hB1; have HG1 := Aside0.mk hgrow; have HW1 := Aside0.mk hw1; clear hR1 hB1 hgrow hat hw1)
    all_goals
      go_wp2_with fail
      go_meet
      case rel =>
        refine ⟨⟨_, v2, (blk_set HW1.out 0 _).trans rfl, Kd.R_set HR1n.out HW1.out (k50_ne (by decide)) 0 _, ?_, ?_, ?_⟩⟩
        · refine Kd.R_set ?_ HW1.out (k208_ne (by decide)) 0 _
          exact R_grown (Kd.R_drewN HR2b.out 1) HG1.out (Kd.R_typed (Kd.R_drewN HR1b.out 1)) (k208_ne (by decide))
        · exact ((HBb.out.mono hb).trans HB1n.out).setCell hg _
        · exact (((KeepX.of_below HBb.out).trans (KeepX.of_below (pw_below_drewN (Below.refl _ _) 1))).trans (KeepX.grown HG1.out (Kd.R_typed (Kd.R_drewN HR1b.out 1)) (.inl rfl))).set HW1.out (.inl rfl) 0 _
  case rest =>
    obtain ⟨w1v, v2', hw1, hr1, hr2, hb1, hk1⟩ := hcut.out
    clear hcut e0 e1 e2 e3 e4 e5 b0 hwb hbb hglb
    have HW1 := Aside0.mk hw1
    have HR1c := Aside0.mk hr1
    have HR2c := Aside0.mk hr2
    have HB1 := Aside0.mk hb1
    have HK1 := Aside0.mk hk1
    have hl1 := hk1 _ _ _ HLO.out (by decide) (by decide) (by decide)
    have HL1 := Aside0.mk hl1
    have l0 := (blk_cell hl1 0).trans rfl
    have l1 := (blk_cell hl1 1).trans rfl
    have c1 := (blk_cell hw1 1).trans rfl
    have hglc := blk_lt hw1
    have hplc := blk_lt hl1
    have hbc : base ≤ wc.heap.size := by omega
    have hl16 : (sp.length + 1) * 16 ≤ 140737488355328 := by have := HSP.out; omega
    have HL16 := Aside0.mk hl16
    clear hw1 hr1 hr2 hb1 hk1 hl1 hl16
    go_upto_region 5 with fail
    go_cut [28] (fun v28 w2 => Aside0 (Tk1 w w2 base g (d ++ [⟨x0, x1, x2, x3, x4, x5⟩]) (sp ++ [(la, lb)])))
    case first =>
      go_region_law (refine Kd.R_append_step k208 (w0 := wc) base rfl (.tmp 32) (.tmp 42) 85 208 _ 16 rfl Tryz.underlying85 info208 rfl (by decide) (by decide) v2' sp (la, lb) [.int .i64 la, .int .i64 lb] (fun _ => True) (fun _ => False) (by simp [Act.eval, Act.put]) (by simp [Act.eval, Act.put]) (k208_mkM _ _ _ _ _) (fun _ hk => hk.elim) (fun _ _ => trivial) (Kd.R_drewN HR2c.out 1) (pw_below_drewN (Below.refl _ _) 1) hbc HL16.out ?_; intro v2n w2 hR2 hB2 hgrow hat; obtain ⟨A2n, cp2n, rfl, -, -⟩ := Kd.R_reads hR2; simp only [List.length_append, List.length_cons, List.length_nil, Nat.zero_add] at hR2; have hw2 := blk_grown (w := wc.drewN 1) HW1.out hgrow (Kd.R_typed (Kd.R_drewN HR2c.out 1)) (by decide); have y1 := (blk_cell hw2 1).trans rfl; have fy := fun j => blk_frozen hw2 j; have HR2n := Aside0.mk hR2; have HB2n := Aside0.mk hB2; have HG2 := Aside0.mk hgrow; have HW2 := Aside0.mk hw2; clear hR2 hB2 hgrow hat hw2)
      all_goals
        go_wp2_with fail
        go_meet
        case rel =>
          refine ⟨⟨w1v, _, (blk_set HW2.out 1 _).trans rfl, ?_, Kd.R_set HR2n.out HW2.out (k208_ne (by decide)) 1 _, ?_, ?_⟩⟩
          · refine Kd.R_set ?_ HW2.out (k50_ne (by decide)) 1 _
            exact R_grown (Kd.R_drewN HR1c.out 1) HG2.out (Kd.R_typed (Kd.R_drewN HR2c.out 1)) (k50_ne (by decide))
          · exact (HB1.out.trans HB2n.out).setCell hg _
          · exact ((HK1.out.trans (KeepX.of_below (pw_below_drewN (Below.refl _ _) 1))).trans (KeepX.grown HG2.out (Kd.R_typed (Kd.R_drewN HR2c.out 1)) (.inr rfl))).set HW2.out (.inl rfl) 1 _
    case rest =>
      obtain ⟨w2v, v2'', hw2, hr12, hr22, hb2, hk2⟩ := hcut.out
      have HT2 : Aside0 (Tk wc base g (d ++ [⟨x0, x1, x2, x3, x4, x5⟩])) := ⟨⟨w2v, v2'', _, hw2, hg, hr12, hr22, by simp [HSP.out]⟩⟩
      have HB2 := Aside0.mk hb2
      have HK2 := Aside0.mk hk2
      clear hcut hw2 hr12 hr22 hb2 hk2 l0 l1 c1 hglc hplc hbc
      rcases HIN.out with ⟨rfl, rfl⟩ | ⟨f, cap, rfl, hff, hcall⟩
      · have HT3 : Aside0 (Tk wc base g (d ++ [⟨x0, x1, x2, x3, x4, x5⟩] ++ [])) := ⟨by rw [List.append_nil]; exact HT2.out⟩
        obtain ⟨ad, c, u5, v5, hlt, hle, hh5, hu5, hf5, hfin⟩ := Tk_size HT3.out
        obtain ⟨L, hL⟩ : ∃ L, L = (d ++ [(⟨x0, x1, x2, x3, x4, x5⟩ : S50)] ++ []).length := ⟨_, rfl⟩
        rw [← hL] at hlt hle hh5
        have hLd : (L : Int) - d.length = 1 := by rw [hL]; simp; omega
        have hw : IntKind.i64.wrap ((L : Int) - d.length) = 1 := by rw [hLd, i64_w]; unfold wrap64; omega
        have g0 := (blk_cell hh5 0).trans rfl
        have HFIN := Aside0.mk hfin
        have nn := neq_nil_nil
        clear hL hh5 hfin hLd
        go_wp2_with fail
        go_region
        all_goals
          go_wp2_with fail
          go_end0
          have hdr : Below wc.heap.size wc wc.drew := below_drew (Below.refl _ _)
          obtain ⟨f1, f2, f3⟩ := HFIN.out _ rfl
          exact ⟨rfl, f1.below (by first | exact below_drew (Below.refl _ _) | exact Below.refl _ _), (HB2.out.trans f2).trans (by first | exact below_drew (Below.refl _ _) | exact Below.refl _ _), (HK2.out.trans f3).trans (KeepX.of_below (by first | exact below_drew (Below.refl _ _) | exact Below.refl _ _))⟩
      · have nf := fun W => neq_fn_nil W f cap
        rcases hff with rfl | rfl | rfl | rfl | rfl | rfl
        all_goals
          go_wp2_with fail
          refine (hcall wc HT2.out HK2.out HB2.out).mono ?_
          rintro e w3 ⟨rfl, hT3, hB3, hK3⟩
          have HT3 := Aside0.mk hT3
          have HB3 := Aside0.mk (HB2.out.trans hB3)
          have HK3 := Aside0.mk (HK2.out.trans hK3)
          clear hT3 hB3 hK3
          obtain ⟨ad, c, u5, v5, hlt, hle, hh5, hu5, hf5, hfin⟩ := Tk_size HT3.out
          obtain ⟨L, hL⟩ : ∃ L, L = (d ++ [(⟨x0, x1, x2, x3, x4, x5⟩ : S50)] ++ kids).length := ⟨_, rfl⟩
          rw [← hL] at hlt hle hh5
          have hLd : (L : Int) - d.length = 1 + kids.length := by rw [hL, List.length_append, List.length_append, List.length_singleton]; omega
          have hw : IntKind.i64.wrap ((L : Int) - d.length) = 1 + kids.length := by rw [hLd, i64_w]; unfold wrap64; omega
          have g0 := (blk_cell hh5 0).trans rfl
          have HFIN := Aside0.mk hfin
          clear hL hh5 hfin hLd hcall
          go_wp2_with fail
          go_region
          all_goals
            go_wp2_with fail
            go_end0
            obtain ⟨f1, f2, f3⟩ := HFIN.out _ rfl
            exact ⟨rfl, f1.below (by first | exact below_drew (Below.refl _ _) | exact Below.refl _ _), (HB3.out.trans f2).trans (by first | exact below_drew (Below.refl _ _) | exact Below.refl _ _), (HK3.out.trans f3).trans (KeepX.of_below (by first | exact below_drew (Below.refl _ _) | exact Below.refl _ _))⟩
end Go.Proofs.YtbobbognjmofdaaGreatDoor.Lex
