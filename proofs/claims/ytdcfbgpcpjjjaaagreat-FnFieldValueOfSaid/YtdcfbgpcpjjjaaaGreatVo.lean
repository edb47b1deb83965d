/- A slice of nodes of values among the arguments, opened: one plain list; each element's four cells. -/
import Derived.Test.YtdcfbgpcpjjjaaaGreatDr
import Derived.Deep.Slices
import Derived.Lib.SmallJoins
import Derived.ChangeArms
namespace Go.Proofs.YtdcfbgpcpjjjaaaGreat.Dr
open Go Go.ChangeShapes Go.WideShapes Go.ChangeAt
set_option linter.unusedVariables false

theorem trod_float {H : Type} {enc : TypeId × Value → H} {P : Program} {w : World} {base : Nat} {spare : Nat → Bool} {held : Bool} {fuel : Nat} {t : TypeId} {cs : List Value} {x : DataW H × List MemPlace} {k : FloatKind}
    (ht : P.underlying t = some (.float k)) (h : DataW.trod enc P w base spare held fuel t cs = some x) : ∃ b, cs = [.float k b] ∧ x = (.lit (.float k b), []) ∧ (Lit.float k b).wf = true := by
  cases fuel with
  | zero => simp [DataW.trod] at h
  | succ n =>
    unfold DataW.trod at h
    rw [ht] at h
    split at h <;> simp_all

/-- The four cells of a node. -/
abbrev cs4 (x : V4) : List Value := [.int .i64 x.kind, .float .f64 x.num, .string x.text, .int .i64 x.size]
/-- A node's words fit their kinds. -/
def V4.wf (x : V4) : Prop := (Lit.int .i64 x.kind).wf = true ∧ x.num < 2 ^ 64 ∧ x.text.size ≤ maxLen ∧ (Lit.int .i64 x.size).wf = true

theorem open_vals {H : Type} {enc : TypeId × Value → H} {P : Program} {w : World} {base : Nat} {spare : Nat → Bool} {held : Bool} {t e : TypeId} {f0 f1 f2 f3 : Field} {a : Option Addr} {len cap : Nat} {d : DataW H} {ps : List MemPlace}
    (ht : P.underlying t = some (.slice e)) (he : P.underlying e = some (.struct #[f0, f1, f2, f3])) (hC : P.cellsOf e = 4)
    (h0 : P.underlying f0.type = some (.int .i64)) (h1 : P.underlying f1.type = some (.float .f64)) (h2 : P.underlying f2.type = some .string) (h3 : P.underlying f3.type = some (.int .i64))
    (ho : f0.offset = 0 ∧ f1.offset = 1 ∧ f2.offset = 2 ∧ f3.offset = 3) (hk : P.cellsOf f0.type = 1 ∧ P.cellsOf f1.type = 1 ∧ P.cellsOf f2.type = 1 ∧ P.cellsOf f3.type = 1)
    (h : DataW.Trod enc P w base spare held t (.slice a len cap) d ps) :
    ∃ l : List V4, len = l.length ∧ l.length ≤ cap ∧ cap ≤ maxLen ∧ (∀ x, x ∈ l → x.wf) ∧ (0 < l.length → ∃ x, a = some x ∧ ∀ i, (hi : i < l.length) → ∀ j v, (cs4 l[i])[j]? = some v → w.cell? (x.add (i * 4 + j)) = some v) := by
  obtain ⟨fuel, hf⟩ := h
  rcases Go.Deep.open_slice ht hf with ⟨hcs, _⟩ | ⟨x, len', cap', m, n, D, Pl, hcs, _, hl, hm, hz, _, hcell⟩
  · simp [Value.cells] at hcs
    obtain ⟨rfl, rfl, rfl⟩ := hcs
    exact ⟨[], rfl, Nat.zero_le _, Nat.zero_le _, by simp, fun h => absurd h (Nat.lt_irrefl 0)⟩
  · simp [Value.cells] at hcs
    obtain ⟨rfl, rfl, rfl⟩ := hcs
    have hle : len ≤ m := by rw [hz]; split <;> omega
    have one : ∀ i, i < len → ∃ y : V4, y.wf ∧ ∀ j v, (cs4 y)[j]? = some v → w.cell? (x.add (i * 4 + j)) = some v := by
      intro i hi
      obtain ⟨cs', hc, ht'⟩ := hcell i (by omega)
      rw [hC] at hc
      obtain ⟨y0, y1, y2, y3, n', _, hlen, g0, g1, g2, g3⟩ := Go.Joins.trod_struct4 he ht'
      rw [hC] at hlen
      obtain ⟨c0, c1, c2, c3, rfl⟩ : ∃ c0 c1 c2 c3, cs' = [c0, c1, c2, c3] := by
        match cs', hlen with
        | [c0, c1, c2, c3], _ => exact ⟨_, _, _, _, rfl⟩
      rw [ho.1, hk.1] at g0
      rw [ho.2.1, hk.2.1] at g1
      rw [ho.2.2.1, hk.2.2.1] at g2
      rw [ho.2.2.2, hk.2.2.2] at g3
      obtain ⟨k0, e0, _, w0⟩ := DataW.trod_int h0 g0
      obtain ⟨k1, e1, _, w1⟩ := trod_float h1 g1
      obtain ⟨k2, e2, _, w2⟩ := DataW.trod_string h2 g2
      obtain ⟨k3, e3, _, w3⟩ := DataW.trod_int h3 g3
      simp only [List.drop_zero, List.drop_succ_cons, List.take_succ_cons, List.take_zero, List.cons.injEq, and_true] at e0 e1 e2 e3
      subst e0; subst e1; subst e2; subst e3
      refine ⟨⟨k0, k1, k2, k3⟩, ⟨w0, by simpa [Lit.wf] using w1, w2, w3⟩, fun j v hj => ?_⟩
      have hj4 : j < 4 := by
        refine Nat.lt_of_not_le fun hn => ?_
        rw [List.getElem?_eq_none (by simpa using hn)] at hj
        cases hj
      rw [← Go.Deep.add_add, (World.cells?_some hc).2.2 j hj4]
      exact hj
    obtain ⟨f, hfx⟩ : ∃ f : Nat → V4, ∀ i, i < len → (f i).wf ∧ ∀ j v, (cs4 (f i))[j]? = some v → w.cell? (x.add (i * 4 + j)) = some v := by
      refine ⟨fun i => if hi : i < len then Classical.choose (one i hi) else none4, fun i hi => ?_⟩
      simp only [dif_pos hi]
      exact Classical.choose_spec (one i hi)
    refine ⟨(List.range len).map f, by simp, by simpa using hl, hm, fun y hy => ?_, fun _ => ⟨x, rfl, fun i hi j v hj => ?_⟩⟩
    · obtain ⟨i, hi, rfl⟩ := List.mem_map.1 hy
      exact (hfx i (List.mem_range.1 hi)).1
    · simp only [List.length_map, List.length_range] at hi
      simp only [List.getElem_map, List.getElem_range] at hj
      exact (hfx i hi).2 j v hj
end Go.Proofs.YtdcfbgpcpjjjaaaGreat.Dr
