/-
  The package's parser in memory: the token at hand, and the step to the next one, walked.
-/
import Derived.Test.YtbobbognjmofdaaGreatDoorTkB
import Derived.Test.YtbobbognjmofdaaGreatDoorPrD
namespace Go.Proofs.YtbobbognjmofdaaGreatDoor.Lex
open Go.RowKit Go.Proofs.YtbobbognjmofdaaGreatDoorW.PrintWords Go.Proofs.YtbobbognjmofdaaGreatDoorW.PrintLast Go.Proofs.YtbobbognjmofdaaGreatDoorW.PrintMore
open Go.Proofs.YtbobbognjmofdaaGreatDoor.Ptext
set_option linter.unusedVariables false
set_option linter.unusedSimpArgs false
/-- The run only adds tokens. -/
theorem lexd_prefix (s : ByteArray) : ∀ (k : Nat) (p : Int) (u : Bool) (l : List S24), ∃ r, (lexd s k p u l).1 = l ++ r
  | 0, p, u, l => ⟨[], by simp [lexd]⟩
  | k + 1, p, u, l => by
    rw [lexd]
    split
    · exact ⟨[], by simp⟩
    · split
      · exact lexd_prefix s k _ _ l
      · exact ⟨[], by simp⟩
      · rename_i a b c u' he
        obtain ⟨r, hr⟩ := lexd_prefix s k c u' (l ++ [⟨a, b, p, c⟩])
        exact ⟨[⟨a, b, p, c⟩] ++ r, by rw [hr, List.append_assoc]⟩
/-- The token at place i: of the list, or the end behind it (if the text is not refused there). -/
def At (s : ByteArray) (l : List S24) (bad : Bool) (i : Nat) (t : S24) : Prop :=
  (l[i]? = some t ∧ t.f0 ≠ 1 ∧ 0 ≤ t.f3 ∧ t.f3 ≤ s.size ∧ ∃ k : Nat, (s.size : Int) < t.f3 + k ∧ lexd s k t.f3 false (l.take (i + 1)) = (l, bad, false)) ∨ (i = l.length ∧ bad = false ∧ t = ⟨1, ⟨#[]⟩, s.size, s.size⟩)
theorem At.kd {s : ByteArray} {l : List S24} {bad : Bool} {i : Nat} {t : S24} (h : At s l bad i t) : kd l i = t.f0 := by
  rcases h with ⟨h, -⟩ | ⟨rfl, -, rfl⟩
  · obtain ⟨hl, rfl⟩ := List.getElem?_eq_some_iff.1 h
    unfold Lex.kd rd_T24
    rw [if_pos (by omega)]
    simp [hl]
  · unfold Lex.kd
    rw [if_neg (by omega)]
theorem At.rd {s : ByteArray} {l : List S24} {bad : Bool} {i : Nat} {t : S24} (h : At s l bad i t) (hi : i < l.length) : rd_T24 l i = t := by
  rcases h with ⟨h, -⟩ | ⟨rfl, -, rfl⟩
  · obtain ⟨hl, rfl⟩ := List.getElem?_eq_some_iff.1 h
    unfold rd_T24
    simp [hl]
  · omega
theorem At.le {s : ByteArray} {l : List S24} {bad : Bool} {i : Nat} {t : S24} (h : At s l bad i t) : i ≤ l.length := by
  rcases h with ⟨h, -⟩ | ⟨rfl, -, rfl⟩
  · have := (List.getElem?_eq_some_iff.1 h).1; omega
  · exact Nat.le_refl _
theorem At.lt {s : ByteArray} {l : List S24} {bad : Bool} {i : Nat} {t : S24} (h : At s l bad i t) (hk : t.f0 ≠ 1) : i < l.length := by
  rcases h with ⟨h, -⟩ | ⟨rfl, -, rfl⟩
  · exact (List.getElem?_eq_some_iff.1 h).1
  · exact absurd rfl hk
/-- What the lexer says behind a place of the run. -/
theorem at_goes {s : ByteArray} (hpt : ∀ p : Int, 0 ≤ p → p < s.size → ((ptS s p).2 = 0 ∨ 1 ≤ (ptS s p).2 ∧ (ptS s p).2 ≤ 4 ∧ p + (ptS s p).2 ≤ s.size)) {l : List S24} {bad : Bool} {i : Nat} {p : Int} {k : Nat}
    (h0 : 0 ≤ p) (hp : p ≤ s.size) (hk : (s.size : Int) < p + k) (hi : i ≤ l.length) (h : lexd s k p false (l.take i) = (l, bad, false)) :
    ∃ N, nxt s k p false = (N, false) ∧ ((N = none ∧ bad = true ∧ i = l.length) ∨ ∃ t, N = some t ∧ At s l bad i t) := by
  obtain ⟨N, hN, hG⟩ := lexd_goes s hpt (l, bad, false) rfl k p (l.take i) h0 hp hk h
  refine ⟨N, hN, ?_⟩
  cases hG with
  | bad h =>
    obtain ⟨h1, h2⟩ := Prod.mk.inj h
    refine .inl ⟨rfl, (Prod.mk.inj h2).1, ?_⟩
    have := congrArg List.length h1
    rw [List.length_take] at this
    omega
  | fin h =>
    obtain ⟨h1, h2⟩ := Prod.mk.inj h
    refine .inr ⟨_, rfl, .inr ⟨?_, (Prod.mk.inj h2).1, rfl⟩⟩
    have := congrArg List.length h1
    rw [List.length_take] at this
    omega
  | tok t k' hk' h1 h2 h3 hL =>
    refine .inr ⟨t, rfl, .inl ?_⟩
    obtain ⟨r, hr⟩ := lexd_prefix s k' t.f3 false (l.take i ++ [t])
    rw [hL] at hr
    have hr : l = l.take i ++ [t] ++ r := hr
    have hlen : (l.take i).length = i := by rw [List.length_take]; omega
    have hget : l[i]? = some t := by
      rw [hr, List.append_assoc, List.getElem?_append_right (by omega), hlen, Nat.sub_self]
      rfl
    have htake : l.take (i + 1) = l.take i ++ [t] := by
      obtain ⟨hil, e⟩ := List.getElem?_eq_some_iff.1 hget
      rw [List.take_succ_eq_append_getElem hil, e]
    exact ⟨hget, hk', by omega, h2, k', h3, by rw [htake]; exact hL⟩
theorem at_first {s : ByteArray} (hpt : ∀ p : Int, 0 ≤ p → p < s.size → ((ptS s p).2 = 0 ∨ 1 ≤ (ptS s p).2 ∧ (ptS s p).2 ≤ 4 ∧ p + (ptS s p).2 ≤ s.size)) {l : List S24} {bad : Bool} (h : lexR s = (l, bad, false)) :
    ∃ N, nxt s (s.size + 1) 0 false = (N, false) ∧ ((N = none ∧ bad = true ∧ l.length = 0) ∨ ∃ t, N = some t ∧ At s l bad 0 t) := by
  obtain ⟨N, hN, hh⟩ := at_goes (i := 0) (l := l) (bad := bad) hpt (Int.le_refl 0) (by omega) (k := s.size + 1) (by omega) (Nat.zero_le _) h
  refine ⟨N, hN, ?_⟩
  rcases hh with ⟨a, b, c⟩ | h
  · exact .inl ⟨a, b, c.symm⟩
  · exact .inr h
theorem at_next {s : ByteArray} (hpt : ∀ p : Int, 0 ≤ p → p < s.size → ((ptS s p).2 = 0 ∨ 1 ≤ (ptS s p).2 ∧ (ptS s p).2 ≤ 4 ∧ p + (ptS s p).2 ≤ s.size)) {l : List S24} {bad : Bool} {i : Nat} {t : S24} (h : At s l bad i t) (hk : t.f0 ≠ 1) :
    0 ≤ t.f3 ∧ t.f3 ≤ s.size ∧ ∃ (K : Nat) (N : Option S24), (s.size : Int) < t.f3 + K ∧ nxt s K t.f3 false = (N, false) ∧ ((N = none ∧ bad = true ∧ i + 1 = l.length) ∨ ∃ t', N = some t' ∧ At s l bad (i + 1) t') := by
  have hi := h.lt hk
  rcases h with ⟨h, -, h0, h1, k, h2, h3⟩ | ⟨rfl, -, rfl⟩
  · obtain ⟨N, hN, hh⟩ := at_goes (i := i + 1) hpt h0 h1 h2 (by omega) h3
    exact ⟨h0, h1, k, N, h2, hN, hh⟩
  · exact absurd rfl hk
/-- The package's parser: its blocks and its text. -/
structure PE where
  P : Nat
  pb : Nat
  sb : Nat
  g : Nat
  b : Nat
  c : Nat
  s : ByteArray
/-- The parser's own cells. -/
abbrev PE.cs (E : PE) (t : S24) (pe : Int) : Array Value := #[.func (.func 67) #[] #[.pointer (some ⟨E.pb, 0, none⟩), .pointer (some ⟨E.sb, 0, none⟩)], .pointer (some ⟨E.g, 0, none⟩), .bool false, .bool false, .int .i64 pe, .int .i64 t.f0, .int .i64 t.f2, .int .i64 t.f3, .string t.f1]
/-- The package's parser in memory, its source as it was in world W1. -/
structure Pk (E : PE) (W1 W : World) (t : S24) (pe : Int) : Prop where
  parser : W.heap[E.P]? = some (.cells (E.cs t pe) 125 (0, 0))
  place : W.heap[E.pb]? = some (.cells #[.int .i64 t.f3] 3 (0, 0))
  source : W.heap[E.sb]? = some (.cells #[.pointer (some ⟨E.g, 0, none⟩)] 72 (0, 0))
  below : Below W1.heap.size W1 W
  bP : W1.heap.size ≤ E.P
  bpb : W1.heap.size ≤ E.pb
  bsb : W1.heap.size ≤ E.sb
  src : Src W1 E.b E.c E.s
  body : W1.cell? ⟨E.g, 0, none⟩ = some (.slice (some ⟨E.b, 0, none⟩) E.s.size E.c)
  short : E.s.size ≤ 2000
/-- What a step of the parser leaves: all but the parser's block and its lexer's place. -/
structure Adv (E : PE) (w w' : World) : Prop where
  os : w'.os = w.os
  tape : w'.tape = w.tape
  output : w'.output = w.output
  size : w.heap.size ≤ w'.heap.size
  block : ∀ k, k < w.heap.size → k ≠ E.P → k ≠ E.pb → w'.heap[k]? = w.heap[k]?
  start : ∀ a, w.cell? ⟨E.P, 6, none⟩ = some (.int .i64 a) → ∃ b, w'.cell? ⟨E.P, 6, none⟩ = some (.int .i64 b)
theorem Adv.refl (E : PE) (w : World) : Adv E w w := ⟨rfl, rfl, rfl, Nat.le_refl _, fun _ _ _ _ => rfl, fun a h => ⟨a, h⟩⟩
theorem Adv.trans {E : PE} {w w1 w2 : World} (h : Adv E w w1) (k : Adv E w1 w2) : Adv E w w2 :=
  ⟨k.os.trans h.os, k.tape.trans h.tape, k.output.trans h.output, Nat.le_trans h.size k.size, fun i hi h1 h2 => (k.block i (Nat.lt_of_lt_of_le hi h.size) h1 h2).trans (h.block i hi h1 h2), fun a ha => by
    obtain ⟨b, hb⟩ := h.start a ha
    exact k.start b hb⟩
theorem Adv.of_below {E : PE} {w w1 : World} (h : Below w.heap.size w w1) : Adv E w w1 := ⟨h.os, h.tape, h.output, h.size, fun i hi _ _ => h.block i hi, fun a ha => ⟨a, pw_cell_below h ha⟩⟩
theorem cell_set_same {w : World} {g j : Nat} {v u : Value} (h : w.cell? ⟨g, j, none⟩ = some v) : (w.setCell ⟨g, j, none⟩ u).cell? ⟨g, j, none⟩ = some u :=
  World.cell?_setCell_same _ _ _ h
theorem cell_set_far {w : World} {g i j : Nat} {v u : Value} (h : w.cell? ⟨g, i, none⟩ = some v) (hij : j ≠ i) : (w.setCell ⟨g, j, none⟩ u).cell? ⟨g, i, none⟩ = some v :=
  (World.cell?_setCell_other _ _ _ _ (fun e => hij (by injection e))).trans h
theorem Adv.set {E : PE} {w w1 : World} (h : Adv E w w1) {g : Nat} (hg : w.heap.size ≤ g) (j : Nat) (u : Value) : Adv E w (w1.setCell ⟨g, j, none⟩ u) := by
  have s := (Below.refl 0 w1).setCell (p := ⟨g, j, none⟩) (Nat.zero_le _) u
  exact ⟨s.os.trans h.os, s.tape.trans h.tape, s.output.trans h.output, by simpa using h.size, fun k hk h1 h2 => (Below.heap_setCell w1 ⟨g, j, none⟩ u k (by show k ≠ g; omega)).trans (h.block k hk h1 h2), fun a ha => by
    obtain ⟨b, hb⟩ := h.start a ha
    have hP : E.P < w.heap.size := World.block_lt_of_cell? w _ ha
    exact ⟨b, (World.cell?_of_block (a := ⟨E.P, 6, none⟩) (Below.heap_setCell w1 ⟨g, j, none⟩ u E.P (by show E.P ≠ g; omega))).trans hb⟩⟩
/-- A store into the parser's own block. -/
theorem Adv.own {E : PE} {w w1 : World} (h : Adv E w w1) (j : Nat) (u : Value) (hj : j ≠ 6 ∨ ∃ b, u = .int .i64 b) : Adv E w (w1.setCell ⟨E.P, j, none⟩ u) := by
  have s := (Below.refl 0 w1).setCell (p := ⟨E.P, j, none⟩) (Nat.zero_le _) u
  exact ⟨s.os.trans h.os, s.tape.trans h.tape, s.output.trans h.output, by simpa using h.size, fun k hk h1 h2 => (Below.heap_setCell w1 ⟨E.P, j, none⟩ u k h1).trans (h.block k hk h1 h2), fun a ha => by
    obtain ⟨b, hb⟩ := h.start a ha
    by_cases e : j = 6
    · subst e
      rcases hj with hj | ⟨c, rfl⟩
      · exact absurd rfl hj
      · exact ⟨c, cell_set_same hb⟩
    · exact ⟨b, cell_set_far hb e⟩⟩
theorem Adv.below {E : PE} {w w1 : World} {B : Nat} (h : Adv E w w1) (hB : B ≤ w.heap.size) (h1 : B ≤ E.P) (h2 : B ≤ E.pb) : Below B w w1 :=
  ⟨h.os, h.tape, h.output, h.size, fun i hi => h.block i (by omega) (by omega) (by omega)⟩
/-- A block of another type stays. -/
theorem Adv.typed {E : PE} {W1 w w1 : World} {t : S24} {pe : Int} {k T : Nat} {cs : Array Value} (h : Adv E w w1) (hp : Pk E W1 w t pe) (hk : w.heap[k]? = some (.cells cs T (0, 0))) (h1 : T ≠ 125) (h2 : T ≠ 3) : w1.heap[k]? = some (.cells cs T (0, 0)) := by
  refine (h.block k (blk_lt hk) (fun e => ?_) (fun e => ?_)).trans hk
  · subst e
    have := hp.parser
    rw [hk] at this
    injection this with this
    injection this with _ a
    exact h1 a
  · subst e
    have := hp.place
    rw [hk] at this
    injection this with this
    injection this with _ a
    exact h2 a
theorem Pk.ne1 {E : PE} {W1 W : World} {t : S24} {pe : Int} (h : Pk E W1 W t pe) : E.P ≠ E.pb := by
  intro e
  have a := h.parser
  have b := h.place
  rw [e, b] at a
  injection a with a
  injection a with _ a
  exact absurd a (by decide)
theorem Pk.ne2 {E : PE} {W1 W : World} {t : S24} {pe : Int} (h : Pk E W1 W t pe) : E.sb ≠ E.pb := by
  intro e
  have a := h.source
  have b := h.place
  rw [e, b] at a
  injection a with a
  injection a with _ a
  exact absurd a (by decide)
theorem Pk.ne3 {E : PE} {W1 W : World} {t : S24} {pe : Int} (h : Pk E W1 W t pe) : E.sb ≠ E.P := by
  intro e
  have a := h.source
  have b := h.parser
  rw [e, b] at a
  injection a with a
  injection a with _ a
  exact absurd a (by decide)
theorem Pk.keep {E : PE} {W1 W W2 : World} {t : S24} {pe : Int} (h : Pk E W1 W t pe) (hb : Below W.heap.size W W2) : Pk E W1 W2 t pe :=
  { h with parser := blk_below h.parser hb, place := blk_below h.place hb, source := blk_below h.source hb, below := h.below.trans (hb.mono h.below.size) }
/-- The lexer called from the parser's place. -/
theorem Pk.lex {E : PE} {W1 W : World} {t : S24} {pe : Int} (h : Pk E W1 W t pe) {N : Option S24} {K : Nat} (h0 : 0 ≤ t.f3) (h1 : t.f3 ≤ E.s.size) (hK : (E.s.size : Int) < t.f3 + K) (hN : nxt E.s K t.f3 false = (N, false)) :
    Calls Tryz.prog 67 #[.int .i64 t.f3, .pointer (some ⟨E.pb, 0, none⟩), .pointer (some ⟨E.sb, 0, none⟩)] W fun e w' => Told e (ofS24 N) ∧ Moved E.pb N W w' :=
  lexer_any E.s E.g E.b E.c E.sb E.pb K t.f3 t.f3 t.f3 N W (by split <;> rfl) (h.src.below h.below) (PFnReadString.old_cell h.below h.body) ((blk_cell h.source 0).trans rfl) h.place h.short h0 h1 hK hN
/-- What comes of a step: an error; or the next token is at hand. -/
def Advd (E : PE) (W1 : World) (pe : Int) (N : Option S24) (e : Ending) (w' : World) : Prop :=
  match N with
  | none => ∃ q, e = .returned (.iface 182 (.pointer (some ⟨q, 0, none⟩)))
  | some t' => e = .returned .nilIface ∧ Pk E W1 w' t' pe
/-- What the lexer's step leaves as it was. -/
theorem Pk.moved {E : PE} {W1 W w2 : World} {t r : S24} {pe : Int} (h : Pk E W1 W t pe) (hm : Moved E.pb (some r) W w2) :
    w2.heap[E.pb]? = some (.cells #[.int .i64 r.f3] 3 (0, 0)) ∧ Adv E W w2 ∧ ∀ k T cs, W.heap[k]? = some (.cells cs T (0, 0)) → k ≠ E.pb → w2.heap[k]? = some (.cells cs T (0, 0)) := by
  have hm : Below W.heap.size (W.setCell ⟨E.pb, 0, none⟩ (.int .i64 r.f3)) w2 := hm
  have hs : Below 0 W (W.setCell ⟨E.pb, 0, none⟩ (.int .i64 r.f3)) := (Below.refl 0 W).setCell (Nat.zero_le _) _
  have hk : ∀ k, k < W.heap.size → k ≠ E.pb → w2.heap[k]? = W.heap[k]? := fun k h1 h2 => (hm.block k h1).trans (Below.heap_setCell W ⟨E.pb, 0, none⟩ _ k h2)
  refine ⟨(hm.block _ (blk_lt h.place)).trans (blk_set h.place 0 _), ⟨hm.os.trans hs.os, hm.tape.trans hs.tape, hm.output.trans hs.output, by have := hm.size; simpa using this, fun k h1 _ h2 => hk k h1 h2, fun a ha => ⟨t.f2, (blk_cell ((hk E.P (blk_lt h.parser) h.ne1).trans h.parser) 6).trans rfl⟩⟩, fun k T cs h1 h2 => (hk k (blk_lt h1) h2).trans h1⟩
theorem set4_far {W : World} {g k T : Nat} {cs : Array Value} (h : W.heap[k]? = some (.cells cs T (0, 0))) (hne : k ≠ g) (x0 x1 x2 x3 : Value) : ((((W.setCell ⟨g, 0, none⟩ x0).setCell ⟨g, 1, none⟩ x1).setCell ⟨g, 2, none⟩ x2).setCell ⟨g, 3, none⟩ x3).heap[k]? = some (.cells cs T (0, 0)) :=
  blk_far (p := ⟨g, 3, none⟩) (blk_far (p := ⟨g, 2, none⟩) (blk_far (p := ⟨g, 1, none⟩) (blk_far (p := ⟨g, 0, none⟩) h hne _) hne _) hne _) hne _
theorem set4_at {W : World} {g T : Nat} {a0 a1 a2 a3 : Value} (h : W.heap[g]? = some (.cells #[a0, a1, a2, a3] T (0, 0))) (x0 x1 x2 x3 : Value) : ((((W.setCell ⟨g, 0, none⟩ x0).setCell ⟨g, 1, none⟩ x1).setCell ⟨g, 2, none⟩ x2).setCell ⟨g, 3, none⟩ x3).heap[g]? = some (.cells #[x0, x1, x2, x3] T (0, 0)) :=
  (blk_set (blk_set (blk_set (blk_set h 0 x0) 1 x1) 2 x2) 3 x3).trans rfl
/-- Behind the call of the lexer: an error, or the token in a block. -/
def CutAdv (E : PE) (W1 Wa : World) (t : S24) (N : Option S24) (v3 v4 : Value) (wc : World) : Prop :=
  Adv E Wa wc ∧ match N with
  | none => ∃ q, v4 = .iface 182 (.pointer (some ⟨q, 0, none⟩))
  | some r => v4 = .nilIface ∧ ∃ k, v3 = .pointer (some ⟨k, 0, none⟩) ∧ wc.heap[k]? = some (.cells #[.int .i64 r.f0, .int .i64 r.f2, .int .i64 r.f3, .string r.f1] 58 (0, 0)) ∧ Wa.heap.size ≤ k ∧
      wc.heap[E.P]? = some (.cells (E.cs t t.f3) 125 (0, 0)) ∧ wc.heap[E.pb]? = some (.cells #[.int .i64 r.f3] 3 (0, 0)) ∧ wc.heap[E.sb]? = some (.cells #[.pointer (some ⟨E.g, 0, none⟩)] 72 (0, 0)) ∧ Below W1.heap.size W1 wc
end Go.Proofs.YtbobbognjmofdaaGreatDoor.Lex
