/-
  The reference's parser in memory, and its small steps, walked.
-/
import Derived.Test.YtbobbognjmofdaaGreatDoorPrW
import Derived.Test.YtbobbognjmofdaaGreatDoorK02
import Derived.Outline
namespace Go.Proofs.YtbobbognjmofdaaGreatDoor.Lex
open Go.RowKit Go.Proofs.YtbobbognjmofdaaGreatDoorW.PrintWords Go.Proofs.YtbobbognjmofdaaGreatDoorW.PrintLast Go.Proofs.YtbobbognjmofdaaGreatDoorW.PrintMore
open Go.Proofs.YtbobbognjmofdaaGreatDoor.Ptext
set_option linter.unusedVariables false
set_option linter.unusedSimpArgs false
/-- The reference's parser. -/
structure PS where
  at_ : Int
  deep : Int
  wrong : Int
  bad : Bool
  unsure : Bool
theorem k24_E91 : ∀ q, q ∈ 24 :: k24.E → q ≠ 91 := by
  simp [k24, Kd.iso, Kd.pair, Kd.int, Kd.string, Kd.scalar]
/-- Such a parser in memory, in block g, its tokens a row of the call's own. -/
def Px (W : World) (base g : Nat) (l : List S24) (x : PS) : Prop := ∃ v, W.heap[g]? = some (.cells #[v, .int .i64 x.at_, .int .i64 x.deep, .int .i64 x.wrong, .bool x.bad, .bool x.unsure] 91 (0, 0)) ∧ base ≤ g ∧ Kd.R k24 24 W base (fun _ => True) v l
theorem Px.cells {W : World} {base g : Nat} {l : List S24} {x : PS} (h : Px W base g l x) : ∃ A c, l.length ≤ c ∧ Kd.C k24 W A l.length l ∧
    W.cell? ⟨g, 0, none⟩ = some (.slice A l.length c) ∧ W.cell? ⟨g, 1, none⟩ = some (.int .i64 x.at_) ∧ W.cell? ⟨g, 2, none⟩ = some (.int .i64 x.deep) ∧ W.cell? ⟨g, 3, none⟩ = some (.int .i64 x.wrong) ∧ W.cell? ⟨g, 4, none⟩ = some (.bool x.bad) ∧ W.cell? ⟨g, 5, none⟩ = some (.bool x.unsure) ∧ ∀ j, W.frozen? ⟨g, j, none⟩ = false := by
  obtain ⟨v, h, -, hR⟩ := h
  obtain ⟨A, c, rfl, hc, hC⟩ := Kd.R_reads hR
  refine ⟨A, c, hc, hC, ?_, ?_, ?_, ?_, ?_, ?_, fun j => ?_⟩ <;> simp [World.cell?, World.frozen?, h]
theorem Px.lt {W : World} {base g : Nat} {l : List S24} {x : PS} (h : Px W base g l x) : g < W.heap.size := by
  obtain ⟨v, h, -, -⟩ := h
  exact (Array.getElem?_eq_some_iff.1 h).1
theorem Px.below {W W1 : World} {base g : Nat} {l : List S24} {x : PS} (h : Px W base g l x) (hb : Below W.heap.size W W1) : Px W1 base g l x := by
  have hlt := h.lt
  obtain ⟨v, h, hg, hR⟩ := h
  exact ⟨v, (hb.block g hlt).trans h, hg, Kd.R_below hR hb⟩
theorem Px.drewN {W : World} {base g : Nat} {l : List S24} {x : PS} (h : Px W base g l x) (m : Nat) : Px (W.drewN m) base g l x := h.below (pw_below_drewN (Below.refl _ _) m)
theorem Px.set1 {W : World} {base g : Nat} {l : List S24} {x : PS} (h : Px W base g l x) (i : Int) : Px (W.setCell ⟨g, 1, none⟩ (.int .i64 i)) base g l { x with at_ := i } := by
  obtain ⟨v, h, hg, hR⟩ := h
  exact ⟨v, (blk_set h 1 _).trans rfl, hg, Kd.R_set hR h k24_E91 _ _⟩
theorem Px.set2 {W : World} {base g : Nat} {l : List S24} {x : PS} (h : Px W base g l x) (i : Int) : Px (W.setCell ⟨g, 2, none⟩ (.int .i64 i)) base g l { x with deep := i } := by
  obtain ⟨v, h, hg, hR⟩ := h
  exact ⟨v, (blk_set h 2 _).trans rfl, hg, Kd.R_set hR h k24_E91 _ _⟩
theorem Px.set3 {W : World} {base g : Nat} {l : List S24} {x : PS} (h : Px W base g l x) (i : Int) : Px (W.setCell ⟨g, 3, none⟩ (.int .i64 i)) base g l { x with wrong := i } := by
  obtain ⟨v, h, hg, hR⟩ := h
  exact ⟨v, (blk_set h 3 _).trans rfl, hg, Kd.R_set hR h k24_E91 _ _⟩
theorem Px.set4 {W : World} {base g : Nat} {l : List S24} {x : PS} (h : Px W base g l x) (b : Bool) : Px (W.setCell ⟨g, 4, none⟩ (.bool b)) base g l { x with bad := b } := by
  obtain ⟨v, h, hg, hR⟩ := h
  exact ⟨v, (blk_set h 4 _).trans rfl, hg, Kd.R_set hR h k24_E91 _ _⟩
theorem Px.set5 {W : World} {base g : Nat} {l : List S24} {x : PS} (h : Px W base g l x) (b : Bool) : Px (W.setCell ⟨g, 5, none⟩ (.bool b)) base g l { x with unsure := b } := by
  obtain ⟨v, h, hg, hR⟩ := h
  exact ⟨v, (blk_set h 5 _).trans rfl, hg, Kd.R_set hR h k24_E91 _ _⟩
/-! What is written into block g alone. -/
theorem grw_trans {g : Nat} {w w1 w2 : World} (h : w.grownBy w1 (some g)) (k : w1.grownBy w2 (some g)) : w.grownBy w2 (some g) :=
  ⟨k.os.trans h.os, k.tape.trans h.tape, k.output.trans h.output, Nat.le_trans h.size k.size, fun i hi hne => (k.block i (Nat.lt_of_lt_of_le hi h.size) hne).trans (h.block i hi hne)⟩
theorem grw_below {g : Nat} {w w1 : World} (h : Below w.heap.size w w1) : w.grownBy w1 (some g) :=
  ⟨h.os, h.tape, h.output, h.size, fun i hi _ => h.block i hi⟩
theorem grw_drewN (g : Nat) (w : World) (m : Nat) : w.grownBy (w.drewN m) (some g) := grw_below (pw_below_drewN (Below.refl _ _) m)
theorem grw_set {g : Nat} {w w1 : World} (h : w.grownBy w1 (some g)) (j : Nat) (u : Value) : w.grownBy (w1.setCell ⟨g, j, none⟩ u) (some g) := by
  have s := (Below.refl 0 w1).setCell (p := ⟨g, j, none⟩) (Nat.zero_le _) u
  refine ⟨s.os.trans h.os, s.tape.trans h.tape, s.output.trans h.output, by simpa using h.size, fun i hi hne => ?_⟩
  have : i ≠ g := fun e => hne (by rw [e])
  exact (Below.heap_setCell w1 ⟨g, j, none⟩ u i this).trans (h.block i hi hne)
theorem grw_alloc {g : Nat} {w w1 : World} (h : w.grownBy w1 (some g)) (o : Obj) : w.grownBy (w1.alloc o) (some g) := grw_trans h (grw_below (below_alloc (Below.refl _ _) o))
theorem grw_base {g base : Nat} {w w1 : World} (h : w.grownBy w1 (some g)) (hg : base ≤ g) (hb : base ≤ w.heap.size) : Below base w w1 :=
  (Below.refl base w).grown h hb (fun k hk => by injection hk with hk; omega)
/-- A row of another type stays. -/
theorem R_grw {α : Type} {d : Kd α} {e base g t : Nat} {ok : Nat → Prop} {W W1 : World} {v : Value} {xs : List α} {cells : Array Value} (h : d.R e W base ok v xs) (hb : W.heap[g]? = some (.cells cells t (0, 0))) (ht : ∀ q, q ∈ e :: d.E → q ≠ t) (hw : W.grownBy W1 (some g)) : d.R e W1 base ok v xs :=
  Kd.R_mono (Kd.R_step (Kd.R_types h hb ht) (fun k hk hl => hw.block k hl (fun e => hk.2 (by injection e)))) (fun k hk => hk.1)
/-- The kind of the token at a place; 1 behind the end. -/
def kd (l : List S24) (i : Int) : Int := if i < l.length then (rd_T24 l i).f0 else 1
/-- What stays as it is: the places are those of a list of at most 3000 tokens. -/
structure PS.ok (l : List S24) (x : PS) : Prop where
  a0 : 0 ≤ x.at_
  a1 : x.at_ ≤ l.length
  ll : l.length ≤ 3000
def PS.failed (x : PS) : PS := if x.bad then x else { x with bad := true, wrong := x.at_ }
def PS.takes (l : List S24) (x : PS) (k : Int) : Bool := !x.bad && kd l x.at_ == k
def PS.took (l : List S24) (x : PS) (k : Int) : PS := if x.takes l k then { x with at_ := x.at_ + 1 } else x
def PS.musted (l : List S24) (x : PS) (k : Int) : PS := if x.takes l k then { x with at_ := x.at_ + 1 } else x.failed
def PS.named (l : List S24) (x : PS) : ByteArray × PS := if x.takes l 15 then ((rd_T24 l x.at_).f1, { x with at_ := x.at_ + 1 }) else (⟨#[]⟩, x.failed)
def PS.entered (x : PS) : PS := if x.deep + 1 > 60 then PS.failed { x with deep := x.deep + 1, unsure := true } else { x with deep := x.deep + 1 }
def PS.left (x : PS) : PS := { x with deep := x.deep - 1 }
theorem PS.takes_lt {l : List S24} {x : PS} {k : Int} (h : x.takes l k = true) (hk : k ≠ 1) : x.at_ < l.length := by
  unfold PS.takes kd at h
  by_cases hl : x.at_ < l.length
  · exact hl
  · rw [if_neg hl] at h
    simp at h
    exact absurd h.2.symm hk
set_option maxHeartbeats 1000000 in
theorem kind_any (base g : Nat) (l : List S24) (x : PS) (a : Int) (w : World) (h : Px w base g l x) (ho : x.ok l) (h0 : 0 ≤ a) (h1 : a ≤ 10) :
    Calls Tryz.prog 109 #[.pointer (some ⟨g, 0, none⟩), .int .i64 a] w fun e w' => e = .returned (.int .i64 (kd l (x.at_ + a))) ∧ ∃ m, w.drewN m = w' := by
  obtain ⟨A, c, hc, hC, c0, c1, c2, c3, c4, c5, fz⟩ := h.cells
  have HC := Aside0.mk hC
  have ho0 := ho.a0
  have ho1 := ho.a1
  have ho2 := ho.ll
  clear h hC ho
  obtain ⟨xa, xd, xw, xb, xu⟩ := x
  dsimp only at *
  have hw : IntKind.i64.wrap (xa + a) = xa + a := by rw [i64_w]; unfold wrap64; omega
  have hp : 0 ≤ xa + a := by omega
  by_cases hlt : xa + a < (l.length : Int)
  · have hb : decide (xa + a ≥ (l.length : Int)) = false := decide_eq_false (by omega)
    have hk : kd l (xa + a) = (rd_T24 l (xa + a)).f0 := if_pos hlt
    obtain ⟨ad, rfl, p0, p1, p2, p3⟩ := at_T24 HC.out (xa + a) hp hlt
    rw [hk]
    clear hk p1 p2 p3
    go_enter Tryz.func109, Tryz.ntmps109
    go_wp2_with fail
    go_quiet (fail)
    go_wp2_with fail
    go_quiet (fail)
    go_wp2_with fail
    go_ret
    exact ⟨rfl, _, (World.drewN_drewN _ _ _).symm⟩
  · have hb : decide (xa + a ≥ (l.length : Int)) = true := decide_eq_true (by omega)
    have hk : kd l (xa + a) = 1 := if_neg hlt
    rw [hk]
    clear hk
    go_enter Tryz.func109, Tryz.ntmps109
    go_wp2_with fail
    go_quiet (fail)
    go_wp2_with fail
    go_ret
    exact ⟨rfl, _, rfl⟩
set_option maxHeartbeats 400000 in
theorem pfail_any (base g : Nat) (l : List S24) (x : PS) (w : World) (h : Px w base g l x) :
    Calls Tryz.prog 122 #[.pointer (some ⟨g, 0, none⟩)] w fun e w' => e = .returned (.slice none 0 0) ∧ Px w' base g l x.failed ∧ w.grownBy w' (some g) := by
  have HX := Aside0.mk h
  obtain ⟨A, c, hc, hC, c0, c1, c2, c3, c4, c5, fz⟩ := h.cells
  clear h hC
  obtain ⟨xa, xd, xw, xb, xu⟩ := x
  cases xb with
  | true =>
    go_enter Tryz.func122, Tryz.ntmps122
    go_wp2_with fail
    go_ret
    exact ⟨rfl, HX.out, World.grownBy.refl _ _⟩
  | false =>
    go_enter Tryz.func122, Tryz.ntmps122
    go_wp2_with fail
    go_ret
    exact ⟨rfl, (HX.out.set4 true).set3 xa, grw_set (grw_set (World.grownBy.refl _ _) 4 _) 3 _⟩
set_option maxHeartbeats 1000000 in
theorem taken_any (base g : Nat) (l : List S24) (x : PS) (k : Int) (w : World) (h : Px w base g l x) (ho : x.ok l) :
    Calls Tryz.prog 110 #[.pointer (some ⟨g, 0, none⟩), .int .i64 k] w fun e w' => e = .returned (.bool (x.takes l k)) ∧ Px w' base g l (x.took l k) ∧ w.grownBy w' (some g) := by
  have HX := Aside0.mk h
  have HK := Aside0.mk (kind_any base g l x 0 w h ho (by omega) (by omega))
  have ho0 := ho.a0
  have ho1 := ho.a1
  have ho2 := ho.ll
  obtain ⟨A, c, hc, hC, c0, c1, c2, c3, c4, c5, fz⟩ := h.cells
  clear h hC ho
  obtain ⟨xa, xd, xw, xb, xu⟩ := x
  rw [show (PS.mk xa xd xw xb xu).at_ + 0 = xa from Int.add_zero xa] at HK
  cases xb with
  | true =>
    have ht : PS.takes l ⟨xa, xd, xw, true, xu⟩ k = false := rfl
    have htk : PS.took l ⟨xa, xd, xw, true, xu⟩ k = ⟨xa, xd, xw, true, xu⟩ := rfl
    rw [ht, htk]
    clear ht htk
    go_enter Tryz.func110, Tryz.ntmps110
    go_wp2_with fail
    go_ret
    exact ⟨rfl, HX.out, World.grownBy.refl _ _⟩
  | false =>
    obtain ⟨q, hq⟩ : ∃ q, q = kd l xa := ⟨_, rfl⟩
    rw [← hq] at HK
    by_cases hk : q = k
    · have ht : PS.takes l ⟨xa, xd, xw, false, xu⟩ k = true := by unfold PS.takes; dsimp only; rw [← hq, hk]; simp
      have htk : PS.took l ⟨xa, xd, xw, false, xu⟩ k = ⟨xa + 1, xd, xw, false, xu⟩ := by unfold PS.took; rw [if_pos ht]
      rw [ht, htk]
      have hqb : (q != k) = false := by simp [hk]
      clear ht htk hk hq
      go_enter Tryz.func110, Tryz.ntmps110
      go_wp2_with fail
      refine HK.out.mono ?_
      rintro e w1 ⟨rfl, ⟨m, rfl⟩⟩
      go_wp2_with fail
      go_ret
      exact ⟨rfl, (HX.out.drewN m).set1 _, grw_set (grw_drewN _ _ _) 1 _⟩
    · have ht : PS.takes l ⟨xa, xd, xw, false, xu⟩ k = false := by unfold PS.takes; dsimp only; rw [← hq]; simpa using hk
      have htk : PS.took l ⟨xa, xd, xw, false, xu⟩ k = ⟨xa, xd, xw, false, xu⟩ := by unfold PS.took; rw [if_neg (by rw [ht]; decide)]
      rw [ht, htk]
      have hqb : (q != k) = true := by simpa using hk
      clear ht htk hk hq
      go_enter Tryz.func110, Tryz.ntmps110
      go_wp2_with fail
      refine HK.out.mono ?_
      rintro e w1 ⟨rfl, ⟨m, rfl⟩⟩
      go_wp2_with fail
      go_ret
      exact ⟨rfl, HX.out.drewN m, grw_drewN _ _ _⟩
set_option maxHeartbeats 400000 in
theorem must_any (base g : Nat) (l : List S24) (x : PS) (k : Int) (w : World) (h : Px w base g l x) (ho : x.ok l) :
    Calls Tryz.prog 111 #[.pointer (some ⟨g, 0, none⟩), .int .i64 k] w fun e w' => e = .returned (.tuple #[]) ∧ Px w' base g l (x.musted l k) ∧ w.grownBy w' (some g) := by
  have HT := Aside0.mk (taken_any base g l x k w h ho)
  clear h ho
  obtain ⟨b, hb⟩ : ∃ b, b = x.takes l k := ⟨_, rfl⟩
  cases b with
  | true =>
    have hm : x.musted l k = x.took l k := by unfold PS.musted PS.took; rw [if_pos hb.symm, if_pos hb.symm]
    rw [hm]
    rw [← hb] at HT
    clear hm hb
    go_enter Tryz.func111, Tryz.ntmps111
    go_wp2_with fail
    refine HT.out.mono ?_
    rintro e w1 ⟨rfl, hX, hB⟩
    have HX := Aside0.mk hX
    have HB := Aside0.mk hB
    clear hX hB
    go_wp2_with fail
    go_end0
    exact ⟨rfl, HX.out, HB.out⟩
  | false =>
    have hm : x.musted l k = x.failed := by unfold PS.musted; rw [if_neg (by rw [← hb]; decide)]
    have ht : x.took l k = x := by unfold PS.took; rw [if_neg (by rw [← hb]; decide)]
    rw [hm]
    rw [← hb, ht] at HT
    clear hm hb ht
    go_enter Tryz.func111, Tryz.ntmps111
    go_wp2_with fail
    refine HT.out.mono ?_
    rintro e w1 ⟨rfl, hX, hB⟩
    have HX := Aside0.mk hX
    have HB := Aside0.mk hB
    clear hX hB
    go_wp2_with fail
    refine (pfail_any base g l x w1 HX.out).mono ?_
    rintro e w2 ⟨rfl, hX2, hB2⟩
    have HX2 := Aside0.mk hX2
    have HB2 := Aside0.mk (grw_trans HB.out hB2)
    clear hX2 hB2
    go_wp2_with fail
    go_end0
    exact ⟨rfl, HX2.out, HB2.out⟩
set_option maxHeartbeats 1000000 in
theorem pname_any (base g : Nat) (l : List S24) (x : PS) (w : World) (h : Px w base g l x) (ho : x.ok l) :
    Calls Tryz.prog 112 #[.pointer (some ⟨g, 0, none⟩)] w fun e w' => e = .returned (.string (x.named l).1) ∧ Px w' base g l (x.named l).2 ∧ w.grownBy w' (some g) := by
  have HX := Aside0.mk h
  have HK := Aside0.mk (kind_any base g l x 0 w h ho (by omega) (by omega))
  have ho0 := ho.a0
  have ho1 := ho.a1
  have ho2 := ho.ll
  obtain ⟨A, c, hc, hC, c0, c1, c2, c3, c4, c5, fz⟩ := h.cells
  have HC := Aside0.mk hC
  clear h hC ho
  obtain ⟨b, hb⟩ : ∃ b, b = x.takes l 15 := ⟨_, rfl⟩
  have hlt : b = true → x.at_ < l.length := fun e => PS.takes_lt (hb.symm.trans e) (by decide)
  obtain ⟨xa, xd, xw, xb, xu⟩ := x
  rw [show (PS.mk xa xd xw xb xu).at_ + 0 = xa from Int.add_zero xa] at HK
  have HB := Aside0.mk hb
  cases b with
  | false =>
    have hn : PS.named l ⟨xa, xd, xw, xb, xu⟩ = (⟨#[]⟩, PS.failed ⟨xa, xd, xw, xb, xu⟩) := by unfold PS.named; rw [if_neg (by rw [← hb]; decide)]
    rw [hn]
    clear hn
    have HF := Aside0.mk (fun w h => pfail_any base g l ⟨xa, xd, xw, xb, xu⟩ w h)
    cases xb with
    | true =>
      clear hb hlt
      go_enter Tryz.func112, Tryz.ntmps112
      go_wp2_with fail
      refine (HF.out _ HX.out).mono ?_
      rintro e w2 ⟨rfl, hX2, hB2⟩
      have HX2 := Aside0.mk hX2
      have HB2 := Aside0.mk hB2
      clear hX2 hB2
      go_wp2_with fail
      go_ret
      exact ⟨rfl, HX2.out, HB2.out⟩
    | false =>
      have hk : (kd l xa != 15) = true := by
        unfold PS.takes at hb
        dsimp only at hb
        cases he : (kd l xa == 15)
        · simpa using he
        · rw [he] at hb; cases hb
      clear hb hlt
      obtain ⟨q, hq⟩ : ∃ q, q = kd l xa := ⟨_, rfl⟩
      rw [← hq] at HK hk
      clear hq
      go_enter Tryz.func112, Tryz.ntmps112
      go_wp2_with fail
      refine HK.out.mono ?_
      rintro e w1 ⟨rfl, ⟨m, rfl⟩⟩
      go_wp2_with fail
      refine (HF.out _ (HX.out.drewN m)).mono ?_
      rintro e w2 ⟨rfl, hX2, hB2⟩
      have HX2 := Aside0.mk hX2
      have HB2 := Aside0.mk (grw_trans (grw_drewN g w m) hB2)
      clear hX2 hB2
      go_wp2_with fail
      go_ret
      exact ⟨rfl, HX2.out, HB2.out⟩
  | true =>
    have hl := hlt rfl
    dsimp only at hl
    have hn : PS.named l ⟨xa, xd, xw, xb, xu⟩ = ((rd_T24 l xa).f1, ⟨xa + 1, xd, xw, xb, xu⟩) := by unfold PS.named; rw [if_pos hb.symm]
    rw [hn]
    clear hn hlt
    obtain ⟨rfl, hk⟩ : xb = false ∧ kd l xa = 15 := by
      unfold PS.takes at hb
      simpa using hb.symm
    rw [hk] at HK
    obtain ⟨t, ht⟩ : ∃ t, t = rd_T24 l xa := ⟨_, rfl⟩
    rw [← ht]
    have HTT := Aside0.mk ht
    clear hb ht hk
    have ho0 : 0 ≤ xa := ho0
    have hw1 : IntKind.i64.wrap (xa + 1) = xa + 1 := by rw [i64_w]; unfold wrap64; omega
    have hw2 : IntKind.i64.wrap (xa + 1 - 1) = xa := by rw [i64_w]; unfold wrap64; omega
    go_enter Tryz.func112, Tryz.ntmps112
    go_wp2_with fail
    refine HK.out.mono ?_
    rintro e w1 ⟨rfl, ⟨m, rfl⟩⟩
    go_wp2_with fail
    obtain ⟨W, hW⟩ : ∃ W, W = (w.drewN m).setCell ⟨g, 1, none⟩ (.int .i64 (xa + 1)) := ⟨_, rfl⟩
    have hX1 := (HX.out.drewN m).set1 (xa + 1)
    have hB1 := grw_set (grw_drewN g w m) 1 (.int .i64 (xa + 1))
    rw [← hW] at hX1 hB1 ⊢
    have HX1 := Aside0.mk hX1
    have HB1 := Aside0.mk hB1
    obtain ⟨A2, cc2, hc2, hC2, d0, d1, d2, d3, d4, d5, fz2⟩ := hX1.cells
    obtain ⟨ad, rfl, p0, p1, p2, p3⟩ := at_T24 hC2 xa ho0 hl
    rw [← HTT.out] at p1
    clear hW hX1 hB1 c0 c1 c2 c3 c4 c5 fz hC2 p0 p2 p3
    go_quiet (fail)
    go_wp2_with fail
    go_ret
    exact ⟨rfl, HX1.out.drewN _, grw_trans HB1.out (grw_drewN _ _ _)⟩
set_option maxHeartbeats 400000 in
theorem enter_any (base g : Nat) (l : List S24) (x : PS) (w : World) (h : Px w base g l x) (hd0 : -1000000 ≤ x.deep) (hd1 : x.deep ≤ 1000000) :
    Calls Tryz.prog 79 #[.pointer (some ⟨g, 0, none⟩)] w fun e w' => e = .returned (.bool (!x.entered.bad)) ∧ Px w' base g l x.entered ∧ w.grownBy w' (some g) := by
  have HX := Aside0.mk h
  obtain ⟨A, c, hc, hC, c0, c1, c2, c3, c4, c5, fz⟩ := h.cells
  clear h hC
  obtain ⟨xa, xd, xw, xb, xu⟩ := x
  dsimp only at *
  by_cases h6 : xd + 1 > 60
  · have he : PS.entered ⟨xa, xd, xw, xb, xu⟩ = PS.failed ⟨xa, xd + 1, xw, xb, true⟩ := by unfold PS.entered; rw [if_pos h6]
    have hbad : (PS.failed ⟨xa, xd + 1, xw, xb, true⟩).bad = true := by unfold PS.failed; cases xb <;> rfl
    rw [he, hbad]
    obtain ⟨y, hy⟩ : ∃ y, y = PS.failed ⟨xa, xd + 1, xw, xb, true⟩ := ⟨_, rfl⟩
    have HF := Aside0.mk (fun w h => pfail_any base g l ⟨xa, xd + 1, xw, xb, true⟩ w h)
    rw [← hy] at HF hbad ⊢
    have h6b : decide (xd + 1 > 60) = true := decide_eq_true h6
    clear he hy h6
    go_enter Tryz.func79, Tryz.ntmps79
    go_wp2_with fail
    refine (HF.out _ ((HX.out.set2 _).set5 _)).mono ?_
    rintro e w2 ⟨rfl, hX2, hB2⟩
    have HX2 := Aside0.mk hX2
    have HB2 := Aside0.mk (grw_trans (grw_set (grw_set (World.grownBy.refl w (some g)) 2 (.int .i64 (xd + 1))) 5 (.bool true)) hB2)
    obtain ⟨A2, cc2, hc2, hC2, d0, d1, d2, d3, d4, d5, fz2⟩ := hX2.cells
    rw [hbad] at d4
    clear hX2 hB2 hC2 hbad
    go_wp2_with fail
    go_ret
    exact ⟨rfl, HX2.out, HB2.out⟩
  · have he : PS.entered ⟨xa, xd, xw, xb, xu⟩ = ⟨xa, xd + 1, xw, xb, xu⟩ := by unfold PS.entered; rw [if_neg h6]
    rw [he]
    have h6b : decide (xd + 1 > 60) = false := decide_eq_false h6
    clear he h6
    go_enter Tryz.func79, Tryz.ntmps79
    go_wp2_with fail
    go_ret
    exact ⟨rfl, HX.out.set2 _, grw_set (World.grownBy.refl _ _) 2 _⟩
set_option maxHeartbeats 400000 in
theorem leave_any (base g : Nat) (l : List S24) (x : PS) (w : World) (h : Px w base g l x) (hd0 : -1000000 ≤ x.deep) (hd1 : x.deep ≤ 1000000) :
    Calls Tryz.prog 81 #[.pointer (some ⟨g, 0, none⟩)] w fun e w' => e = .returned (.tuple #[]) ∧ Px w' base g l x.left ∧ w.grownBy w' (some g) := by
  have HX := Aside0.mk h
  obtain ⟨A, c, hc, hC, c0, c1, c2, c3, c4, c5, fz⟩ := h.cells
  clear h hC
  obtain ⟨xa, xd, xw, xb, xu⟩ := x
  dsimp only at *
  go_enter Tryz.func81, Tryz.ntmps81
  go_wp2_with fail
  go_end0
  exact ⟨rfl, HX.out.set2 _, grw_set (World.grownBy.refl _ _) 2 _⟩
end Go.Proofs.YtbobbognjmofdaaGreatDoor.Lex
