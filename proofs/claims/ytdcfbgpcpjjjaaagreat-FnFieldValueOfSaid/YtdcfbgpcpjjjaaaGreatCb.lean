/-
  Nodes of values as data in memory: a row of nodes.
-/
import Derived.Test.YtdcfbgpcpjjjaaaGreatVo
import Derived.Test.YtdcfbgpcpjjjaaaGreatProg
import Derived.Test.YtdcfbgpcpjjjaaaGreatWWords
import Derived.WalkKit
namespace Go.Proofs.YtdcfbgpcpjjjaaaGreat.Co
open Go.RowKit Go.Proofs.YtdcfbgpcpjjjaaaGreatW.PrintWords
open Go.Proofs.YtdcfbgpcpjjjaaaGreat.Fl Go.Proofs.YtdcfbgpcpjjjaaaGreat.Dr
set_option linter.unusedVariables false
set_option linter.unusedSimpArgs false
theorem info27 : (Tryz.prog.info? 27).map (fun i => (i.zero, i.size, i.bytes)) = some (some (.agg #[.int .i64 0, .float .f64 0, .string ⟨#[]⟩, .int .i64 0]), 4, 40) := by kernel_rfl
abbrev val27 (x : V4) : Value := .agg #[.int .i64 x.kind, .float .f64 x.num, .string x.text, .int .i64 x.size]
def kfl : Kd Nat := Kd.scalar (Value.float .f64) (fun _ => rfl)
def k27 : Kd V4 := Kd.iso (Kd.pair (Kd.int .i64) (Kd.pair kfl (Kd.pair Kd.string (Kd.int .i64)))) (fun x : V4 => (x.kind, x.num, x.text, x.size))
theorem k27_open {w : World} {x : V4} {cs : List Value} (h : k27.K w x cs) : cs = cs4 x := by
  obtain ⟨_, _, rfl, rfl, ⟨_, _, rfl, rfl, ⟨_, _, rfl, rfl, rfl⟩⟩⟩ := h
  exact rfl
theorem k27_mkM (w : World) (base : Nat) (ok : Nat → Prop) (x : V4) : k27.M w base ok x (cs4 x) :=
  ⟨[_], [_, _, _], rfl, rfl, ⟨[_], [_, _], rfl, rfl, ⟨[_], [_], rfl, rfl, rfl⟩⟩⟩
theorem k27_sz : k27.sz = 4 := rfl
theorem k27_E : ∀ q, q ∈ 27 :: k27.E → q = 27 := by
  simp [k27, kfl, Kd.iso, Kd.pair, Kd.int, Kd.string, Kd.scalar]
theorem k27_ne {t : Nat} (h : t ≠ 27) : ∀ q, q ∈ 27 :: k27.E → q ≠ t := fun q hq => by rw [k27_E q hq]; exact fun e => h e.symm
def rd27 (xs : List V4) (i : Int) : V4 := xs.getD i.toNat none4
theorem at_27 {w : World} {A : Option Addr} {n : Nat} {xs : List V4} (h : Kd.C k27 w A n xs) (i : Int) (h0 : 0 ≤ i) (h1 : i < n) : ∃ ad, A = some ad ∧ w.cell? (ad.add (i.toNat * 4)) = some (.int .i64 (rd27 xs i).kind) ∧
    w.cell? ⟨(ad.add (i.toNat * 4)).block, (ad.add (i.toNat * 4)).off + 1, none⟩ = some (.float .f64 (rd27 xs i).num) ∧ w.cell? ⟨(ad.add (i.toNat * 4)).block, (ad.add (i.toNat * 4)).off + 2, none⟩ = some (.string (rd27 xs i).text) ∧
    w.cell? ⟨(ad.add (i.toNat * 4)).block, (ad.add (i.toNat * 4)).off + 3, none⟩ = some (.int .i64 (rd27 xs i).size) := by
  obtain ⟨ad, c, e, _, hK, hc0⟩ := Kd.C_get h none4 i h0 h1
  have hc : ∀ j u, c[j]? = some u → w.cell? (ad.add (i.toNat * 4 + j)) = some u := hc0
  obtain rfl := k27_open hK
  exact ⟨ad, e, hc 0 _ rfl, by rw [← add_field _ _ 1 (by omega)]; exact hc 1 _ rfl, by rw [← add_field _ _ 2 (by omega)]; exact hc 2 _ rfl, by rw [← add_field _ _ 3 (by omega)]; exact hc 3 _ rfl⟩
/-- What the opened argument gives the walks. -/
theorem C_vals {w : World} {a : Option Addr} {l : List V4} (hm : l.length ≤ maxLen)
    (h : 0 < l.length → ∃ x, a = some x ∧ ∀ i, (hi : i < l.length) → ∀ j v, (cs4 l[i])[j]? = some v → w.cell? (x.add (i * 4 + j)) = some v) : Kd.C k27 w a l.length l := by
  refine ⟨rfl, by unfold maxLen at hm; omega, fun h0 => ?_⟩
  obtain ⟨x, hx, hc⟩ := h h0
  refine ⟨x, hx, fun j p hj => ?_⟩
  obtain ⟨hi, rfl⟩ := List.getElem?_eq_some_iff.1 hj
  exact ⟨cs4 l[j], rfl, k27.K_of_M (k27_mkM w 0 (fun _ => True) l[j]), fun i u hu => hc j hi i u hu⟩
end Go.Proofs.YtdcfbgpcpjjjaaaGreat.Co
