/-
  impl.goOf, walked: a value's nodes as Go has them. Leaves, lists and objects; by induction on the nodes.
-/
import Derived.Test.YtdcfbgpcpjjjaaaGreatCi
import Derived.Test.YtdcfbgpcpjjjaaaGreatGv
namespace Go.Proofs.YtdcfbgpcpjjjaaaGreat.Co
open Go.RowKit Go.Proofs.YtdcfbgpcpjjjaaaGreatW.PrintWords Go.Proofs.YtdcfbgpcpjjjaaaGreatW.PrintLast Go.Proofs.YtdcfbgpcpjjjaaaGreatW.PrintMore
open Go.Proofs.YtdcfbgpcpjjjaaaGreat.Fl Go.Proofs.YtdcfbgpcpjjjaaaGreat.Dr Go.Proofs.YtdcfbgpcpjjjaaaGreat.PFnFieldValueOf
open Go.Maps (Keyed)
set_option linter.unusedVariables false
set_option linter.unusedSimpArgs false
attribute [local go_sem] run_store_float
/-- A node's cells at a place of a row. -/
structure AtN (v : List V4) (w : World) (ad : Addr) (k : Nat) (x : V4) : Prop where
  p0 : w.cell? (ad.add (k * 4)) = some (.int .i64 x.kind)
  p1 : w.cell? ⟨(ad.add (k * 4)).block, (ad.add (k * 4)).off + 1, none⟩ = some (.float .f64 x.num)
  p2 : w.cell? ⟨(ad.add (k * 4)).block, (ad.add (k * 4)).off + 2, none⟩ = some (.string x.text)
  p3 : w.cell? ⟨(ad.add (k * 4)).block, (ad.add (k * 4)).off + 3, none⟩ = some (.int .i64 x.size)
  lt : (ad.add (k * 4)).block < w.heap.size
theorem atN {v : List V4} {w : World} {A : Option Addr} (h : Kd.C k27 w A v.length v) {k : Nat} {x : V4} {r : List V4} (hx : v.drop k = x :: r) : ∃ ad, A = some ad ∧ AtN v w ad k x ∧ k < v.length := by
  have hk : k < v.length := by
    refine Nat.lt_of_not_le fun hn => ?_
    rw [List.drop_eq_nil_of_le hn] at hx
    cases hx
  obtain ⟨ad, rfl, p0, p1, p2, p3⟩ := at_27 h (k : Int) (by omega) (by omega)
  rw [rd_mem hk, Int.toNat_natCast] at p0 p1 p2 p3
  have e : v[k] = x := by
    rw [List.drop_eq_getElem_cons hk] at hx
    injection hx
  rw [e] at p0 p1 p2 p3
  exact ⟨ad, rfl, ⟨p0, p1, p2, p3, World.block_lt_of_cell? w _ p0⟩, hk⟩
/-- What goOf does at a tree. -/
def GoesAt (t : Tr) : Prop := ∀ (v : List V4) (k : Nat) (post : List V4) (A : Option Addr) (c : Nat) (w : World), v.drop k = nodes t ++ post → Kd.C k27 w A v.length v → v.length ≤ c → v.length ≤ 300 →
  Calls Tryz.prog 25 #[.slice A v.length c, .int .i64 k] w fun e w' => ∃ V, e = .returned (.tuple #[V, .bool true]) ∧ RepG w' (New w.heap.size w') V t ∧ Below w.heap.size w w'
set_option maxHeartbeats 4000000 in
set_option maxRecDepth 100000 in
theorem goOf_nul (n : Nat) : GoesAt (.mk 1 n ⟨#[]⟩ []) := by
  intro v k post A c w hv hC hc h300
  have hv : v.drop k = ⟨1, n, ⟨#[]⟩, 1⟩ :: post := by rw [hv]; simp [nodes, nodesL]
  obtain ⟨ad, rfl, ⟨p0, p1, p2, p3, hl⟩, hk⟩ := atN hC hv
  have hki : ¬ (v.length : Int) ≤ (k : Int) := by omega
  have hki2 : (k : Int) < (v.length : Int) := by omega
  have hd1 : decide ((v.length : Int) ≤ (k : Int)) = false := decide_eq_false hki
  have hd2 : decide ((v.length : Int) - (k : Int) < 1) = false := decide_eq_false (by omega)
  have hw : IntKind.i64.wrap ((k : Int) + 1) = (k : Int) + 1 := by rw [i64_w, w64 (by omega) (by omega)]
  clear hC hv
  dsimp only at p0 p1 p2 p3
  go_enter Tryz.func25, Tryz.ntmps25
  go_wp2_with fail
  go_region
  go_wp2_with fail
  go_region
  go_wp2_with fail
  go_ret2
  exact ⟨_, rfl, .nul n, below_drew (below_drew (below_one _ _))⟩
set_option maxHeartbeats 4000000 in
set_option maxRecDepth 100000 in
theorem goOf_tru (n : Nat) : GoesAt (.mk 2 n ⟨#[]⟩ []) := by
  intro v k post A c w hv hC hc h300
  have hv : v.drop k = ⟨2, n, ⟨#[]⟩, 1⟩ :: post := by rw [hv]; simp [nodes, nodesL]
  obtain ⟨ad, rfl, ⟨p0, p1, p2, p3, hl⟩, hk⟩ := atN hC hv
  have hki : ¬ (v.length : Int) ≤ (k : Int) := by omega
  have hki2 : (k : Int) < (v.length : Int) := by omega
  have hd1 : decide ((v.length : Int) ≤ (k : Int)) = false := decide_eq_false hki
  have hd2 : decide ((v.length : Int) - (k : Int) < 1) = false := decide_eq_false (by omega)
  have hw : IntKind.i64.wrap ((k : Int) + 1) = (k : Int) + 1 := by rw [i64_w, w64 (by omega) (by omega)]
  clear hC hv
  dsimp only at p0 p1 p2 p3
  go_enter Tryz.func25, Tryz.ntmps25
  go_wp2_with fail
  go_region
  go_wp2_with fail
  go_region
  go_wp2_with fail
  go_ret2
  exact ⟨_, rfl, .tru n, below_drew (below_drew (below_one _ _))⟩
set_option maxHeartbeats 4000000 in
set_option maxRecDepth 100000 in
theorem goOf_fls (n : Nat) : GoesAt (.mk 3 n ⟨#[]⟩ []) := by
  intro v k post A c w hv hC hc h300
  have hv : v.drop k = ⟨3, n, ⟨#[]⟩, 1⟩ :: post := by rw [hv]; simp [nodes, nodesL]
  obtain ⟨ad, rfl, ⟨p0, p1, p2, p3, hl⟩, hk⟩ := atN hC hv
  have hki : ¬ (v.length : Int) ≤ (k : Int) := by omega
  have hki2 : (k : Int) < (v.length : Int) := by omega
  have hd1 : decide ((v.length : Int) ≤ (k : Int)) = false := decide_eq_false hki
  have hd2 : decide ((v.length : Int) - (k : Int) < 1) = false := decide_eq_false (by omega)
  have hw : IntKind.i64.wrap ((k : Int) + 1) = (k : Int) + 1 := by rw [i64_w, w64 (by omega) (by omega)]
  clear hC hv
  dsimp only at p0 p1 p2 p3
  go_enter Tryz.func25, Tryz.ntmps25
  go_wp2_with fail
  go_region
  go_wp2_with fail
  go_region
  go_wp2_with fail
  go_ret2
  exact ⟨_, rfl, .fls n, below_drew (below_drew (below_one _ _))⟩
set_option maxHeartbeats 4000000 in
set_option maxRecDepth 100000 in
theorem goOf_err (n : Nat) : GoesAt (.mk 10 n ⟨#[]⟩ []) := by
  intro v k post A c w hv hC hc h300
  have hv : v.drop k = ⟨10, n, ⟨#[]⟩, 1⟩ :: post := by rw [hv]; simp [nodes, nodesL]
  obtain ⟨ad, rfl, ⟨p0, p1, p2, p3, hl⟩, hk⟩ := atN hC hv
  have hki : ¬ (v.length : Int) ≤ (k : Int) := by omega
  have hki2 : (k : Int) < (v.length : Int) := by omega
  have hd1 : decide ((v.length : Int) ≤ (k : Int)) = false := decide_eq_false hki
  have hd2 : decide ((v.length : Int) - (k : Int) < 1) = false := decide_eq_false (by omega)
  have hw : IntKind.i64.wrap ((k : Int) + 1) = (k : Int) + 1 := by rw [i64_w, w64 (by omega) (by omega)]
  clear hC hv
  dsimp only at p0 p1 p2 p3
  go_enter Tryz.func25, Tryz.ntmps25
  go_wp2_with fail
  go_region
  go_wp2_with fail
  go_region
  go_wp2_with fail
  go_ret2
  exact ⟨_, rfl, .err n, below_drew (below_drew (below_one _ _))⟩
set_option maxHeartbeats 4000000 in
set_option maxRecDepth 100000 in
theorem goOf_flt (n : Nat) : GoesAt (.mk 5 n ⟨#[]⟩ []) := by
  intro v k post A c w hv hC hc h300
  have hv : v.drop k = ⟨5, n, ⟨#[]⟩, 1⟩ :: post := by rw [hv]; simp [nodes, nodesL]
  obtain ⟨ad, rfl, ⟨p0, p1, p2, p3, hl⟩, hk⟩ := atN hC hv
  have hki : ¬ (v.length : Int) ≤ (k : Int) := by omega
  have hki2 : (k : Int) < (v.length : Int) := by omega
  have hd1 : decide ((v.length : Int) ≤ (k : Int)) = false := decide_eq_false hki
  have hd2 : decide ((v.length : Int) - (k : Int) < 1) = false := decide_eq_false (by omega)
  have hw : IntKind.i64.wrap ((k : Int) + 1) = (k : Int) + 1 := by rw [i64_w, w64 (by omega) (by omega)]
  clear hC hv
  dsimp only at p0 p1 p2 p3
  go_enter Tryz.func25, Tryz.ntmps25
  go_wp2_with fail
  go_region
  go_wp2_with fail
  go_region
  go_wp2_with fail
  go_ret2
  exact ⟨_, rfl, .flt n, below_drew (below_drew (below_one _ _))⟩
set_option maxHeartbeats 4000000 in
set_option maxRecDepth 100000 in
theorem goOf_str (n : Nat) (t : ByteArray) : GoesAt (.mk 6 n t []) := by
  intro v k post A c w hv hC hc h300
  have hv : v.drop k = ⟨6, n, t, 1⟩ :: post := by rw [hv]; simp [nodes, nodesL]
  obtain ⟨ad, rfl, ⟨p0, p1, p2, p3, hl⟩, hk⟩ := atN hC hv
  have hki : ¬ (v.length : Int) ≤ (k : Int) := by omega
  have hki2 : (k : Int) < (v.length : Int) := by omega
  have hd1 : decide ((v.length : Int) ≤ (k : Int)) = false := decide_eq_false hki
  have hd2 : decide ((v.length : Int) - (k : Int) < 1) = false := decide_eq_false (by omega)
  have hw : IntKind.i64.wrap ((k : Int) + 1) = (k : Int) + 1 := by rw [i64_w, w64 (by omega) (by omega)]
  clear hC hv
  dsimp only at p0 p1 p2 p3
  go_enter Tryz.func25, Tryz.ntmps25
  go_wp2_with fail
  go_region
  go_wp2_with fail
  go_region
  go_wp2_with fail
  go_ret2
  exact ⟨_, rfl, .str n t, below_drew (below_drew (below_one _ _))⟩
set_option maxHeartbeats 4000000 in
set_option maxRecDepth 100000 in
theorem goOf_int (n : Nat) (hn : intN n = true) : GoesAt (.mk 4 n ⟨#[]⟩ []) := by
  intro v k post A c w hv hC hc h300
  have hv : v.drop k = ⟨4, n, ⟨#[]⟩, 1⟩ :: post := by rw [hv]; simp [nodes, nodesL]
  obtain ⟨ad, rfl, ⟨p0, p1, p2, p3, hl⟩, hk⟩ := atN hC hv
  have hki : ¬ (v.length : Int) ≤ (k : Int) := by omega
  have hki2 : (k : Int) < (v.length : Int) := by omega
  have hd1 : decide ((v.length : Int) ≤ (k : Int)) = false := decide_eq_false hki
  have hd2 : decide ((v.length : Int) - (k : Int) < 1) = false := decide_eq_false (by omega)
  have hw : IntKind.i64.wrap ((k : Int) + 1) = (k : Int) + 1 := by rw [i64_w, w64 (by omega) (by omega)]
  obtain ⟨j, hj, hb⟩ := intN_num hn
  have hcv : ∀ W : World, (convert 25 3 (.float .f64 n)).run Tryz.prog W = .ok (.int .i64 j) W := fun W => run_convert_float_int W 25 3 .f64 .i64 n j (by rw [Tryz.underlying25]; rfl) Tryz.underlying3 hj
  clear hC hv
  dsimp only at p0 p1 p2 p3
  go_enter Tryz.func25, Tryz.ntmps25
  go_wp2_with fail
  go_region
  go_wp2_with fail
  go_region
  go_wp2_with fail
  go_ret2
  exact ⟨_, rfl, .int n j hj hb, below_drew (below_drew (below_one _ _))⟩
end Go.Proofs.YtdcfbgpcpjjjaaaGreat.Co
