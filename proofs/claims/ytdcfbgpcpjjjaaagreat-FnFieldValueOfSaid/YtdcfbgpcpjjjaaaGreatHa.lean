/-
  spec.Parts, walked: a row of slices, one for each part.
-/
import Derived.Test.YtdcfbgpcpjjjaaaGreatGt
namespace Go.Proofs.YtdcfbgpcpjjjaaaGreat.Co
open Go.RowKit Go.Proofs.YtdcfbgpcpjjjaaaGreatW.PrintWords Go.Proofs.YtdcfbgpcpjjjaaaGreatW.PrintLast Go.Proofs.YtdcfbgpcpjjjaaaGreatW.PrintMore
open Go.Proofs.YtdcfbgpcpjjjaaaGreat.Fl Go.Proofs.YtdcfbgpcpjjjaaaGreat.Dr Go.Proofs.YtdcfbgpcpjjjaaaGreat.PFnFieldValueOf
set_option linter.unusedVariables false
set_option linter.unusedSimpArgs false
attribute [local go_sem] run_store_float
theorem cell_same {w w' : World} {a : Addr} (h : w'.heap[a.block]? = w.heap[a.block]?) : w'.cell? a = w.cell? a := by unfold World.cell?; rw [h]
theorem add_block (a : Addr) (n : Nat) : (a.add n).block = a.block := by unfold Addr.add; split <;> rfl
/-- A slice of nodes, in blocks of S. -/
def SliceN (w : World) (S : Nat → Prop) (v : Value) (L : List V4) : Prop := ∃ A c, v = .slice A L.length c ∧ L.length ≤ c ∧ Kd.C k27 w A L.length L ∧ (0 < L.length → ∃ ad, A = some ad ∧ S ad.block)
theorem C_frame {w w' : World} {A : Option Addr} {L : List V4} (h : Kd.C k27 w A L.length L) (hh : ∀ ad, A = some ad → w'.heap[ad.block]? = w.heap[ad.block]?) : Kd.C k27 w' A L.length L := by
  refine ⟨h.1, h.2.1, fun h0 => ?_⟩
  obtain ⟨ad, e, hc⟩ := h.2.2 h0
  refine ⟨ad, e, fun j p hj => ?_⟩
  obtain ⟨cs, hl, hK, hcc⟩ := hc j p hj
  have hcs := k27_open hK
  subst hcs
  refine ⟨cs4 p, hl, k27.K_of_M (k27_mkM _ 0 (fun _ => True) _), fun i u hu => ?_⟩
  rw [cell_same (w := w) (by rw [add_block]; exact hh ad e)]
  exact hcc i u hu
theorem C_empty (w : World) (A : Option Addr) : Kd.C k27 w A ([] : List V4).length [] := ⟨rfl, by simp, fun h => absurd h (Nat.lt_irrefl 0)⟩
theorem SliceN.frame {w w' : World} {S S' : Nat → Prop} {v : Value} {L : List V4} (h : SliceN w S v L) (hs : ∀ k, S k → S' k ∧ w'.heap[k]? = w.heap[k]?) : SliceN w' S' v L := by
  obtain ⟨A, c, e, hc, hC, hS⟩ := h
  by_cases h0 : 0 < L.length
  · obtain ⟨ad, ea, hsa⟩ := hS h0
    refine ⟨A, c, e, hc, C_frame hC fun ad' e' => ?_, fun _ => ⟨ad, ea, (hs _ hsa).1⟩⟩
    rw [ea] at e'
    injection e' with e'
    subst e'
    exact (hs _ hsa).2
  · obtain rfl := List.eq_nil_of_length_eq_zero (by omega : L.length = 0)
    exact ⟨A, c, e, hc, C_empty _ _, fun h => absurd h h0⟩
theorem SliceN.isL {w : World} {S : Nat → Prop} {v : Value} {L : List V4} (h : SliceN w S v L) : IsL w v L := by
  obtain ⟨A, c, e, hc, hC, -⟩ := h
  exact ⟨A, c, e, hc, hC⟩
theorem IsL.sliceN {w : World} {v : Value} {L : List V4} (h : IsL w v L) : SliceN w (fun k => k < w.heap.size) v L := by
  obtain ⟨A, c, e, hc, hC⟩ := h
  refine ⟨A, c, e, hc, hC, fun h0 => ?_⟩
  obtain ⟨ad, ea, p0, -⟩ := at0_27 hC h0
  exact ⟨ad, ea, World.block_lt_of_cell? w _ p0⟩
/-- A row of slices: trees. -/
structure Rws (w : World) (B : Nat) (S : Nat → Prop) (v : Value) (Ts : List Tr) (cells : List Value) : Prop where
  row : w.ownsRow B 22 1 v Ts.length cells
  elem : ∀ (i : Nat) (t : Tr), Ts[i]? = some t → ∃ u, cells[i]? = some u ∧ SliceN w (fun k => S k ∧ some k ≠ v.ownBlock) u (nodes t)
theorem info22 : (Tryz.prog.info? 22).map (fun i => (i.zero, i.size, i.bytes)) = some (some (.slice none 0 0), 1, 24) := by kernel_rfl
/-- One slice more. -/
theorem Rws.more {B : Nat} {S : Nat → Prop} {w w2 : World} {v v2 u : Value} {Ts : List Tr} {cells : List Value} {t : Tr} (h : Rws w B S v Ts cells) (hu : SliceN w (fun k => S k ∧ some k ≠ v.ownBlock) u (nodes t)) (hlt : ∀ k, S k → k < w.heap.size)
    (ho : w2.ownsRow B 22 1 v2 (Ts.length + 1) (cells ++ [u])) (hg : w.grownBy w2 v.ownBlock) (hat : v2.ownBlock = v.ownBlock ∨ ∃ b, v2.ownBlock = some b ∧ w.heap.size ≤ b) : Rws w2 B S v2 (Ts ++ [t]) (cells ++ [u]) := by
  have hl : cells.length = Ts.length := by have := h.row.1; omega
  have keep : ∀ {u : Value} {L : List V4}, SliceN w (fun k => S k ∧ some k ≠ v.ownBlock) u L → SliceN w2 (fun k => S k ∧ some k ≠ v2.ownBlock) u L := fun hU => hU.frame fun k hk => ⟨⟨hk.1, by
    rcases hat with e | ⟨b, e, hb⟩
    · rw [e]; exact hk.2
    · rw [e]; intro e2; injection e2 with e2; have := hlt k hk.1; omega⟩, hg.block k (hlt k hk.1) hk.2⟩
  refine ⟨by rw [List.length_append]; exact ho, fun i t' ht' => ?_⟩
  by_cases hi : i < Ts.length
  · rw [List.getElem?_append_left hi] at ht'
    obtain ⟨u', h1, h2⟩ := h.elem i t' ht'
    exact ⟨u', by rw [List.getElem?_append_left (by omega)]; exact h1, keep h2⟩
  · have hi2 : i = Ts.length := by
      have := (List.getElem?_eq_some_iff.1 ht').1
      simp at this
      omega
    subst hi2
    rw [List.getElem?_append_right (Nat.le_refl _), Nat.sub_self] at ht'
    simp at ht'
    subst ht'
    exact ⟨u, by rw [List.getElem?_append_right (by omega), hl, Nat.sub_self]; rfl, keep hu⟩
theorem Rws.nil {w : World} {B : Nat} {S : Nat → Prop} : Rws w B S (.slice none 0 0) [] [] := ⟨own_nil _ _ _ _, fun i t h => by simp at h⟩
/-- The loop of Parts. -/
def SRel (B : Nat) (w : World) (S : Nat → Prop) (k0 : Nat) (ks : List Tr) (v3 v4 : Value) (wr : World) : Prop :=
  ∃ (i kk : Nat) (cells : List Value), i ≤ ks.length ∧ v4 = .int .i64 kk ∧ kk = k0 + 1 + (nodesL (ks.take i)).length ∧ Rws wr B S v3 (ks.take i) cells ∧ Below B w wr
set_option maxHeartbeats 4000000 in
set_option maxRecDepth 100000 in
theorem parts14_any (k : Int) (n : Nat) (tx : ByteArray) (ks : List Tr) (v : List V4) (hv : nodes (.mk k n tx ks) = v) (A : Option Addr) (c : Nat) (w : World) (hC : Kd.C k27 w A v.length v) (hc : v.length ≤ c) (h300 : v.length ≤ 1000) :
    Calls Tryz.prog 14 #[.slice A v.length c] w fun e w' => ∃ r, e = .returned r ∧ (∃ cells, Rws w' w.heap.size (fun b => b < w.heap.size) r ks cells) ∧ Below w.heap.size w w' := by
  have hvd : v.drop 0 = ⟨k, n, tx, 1 + (nodesL ks).length⟩ :: (nodesL ks ++ []) := by rw [List.drop_zero, ← hv]; simp [nodes]
  have hvl : v.length = 1 + (nodesL ks).length := by rw [← hv]; simp [nodes]; omega
  obtain ⟨ad, rfl, -, hk⟩ := atN hC hvd
  have HC := Aside0.mk hC
  have HV := Aside0.mk hvd
  have HL := Aside0.mk hvl
  have HS0 : Aside0 (SRel w.heap.size w (fun b => b < w.heap.size) 0 ks (.slice none 0 0) (.int .i64 1) w) := ⟨⟨0, 1, [], Nat.zero_le _, rfl, by simp [nodesL], Rws.nil, Below.refl _ _⟩⟩
  clear hC hv hvd hvl
  go_enter Tryz.func14, Tryz.ntmps14
  go_wp2_with fail
  go_loopw [3, 4] (fun v3 v4 wr => SRel w.heap.size w (fun b => b < w.heap.size) 0 ks v3 v4 wr) (fun _ v4 _ => 2000 - (intOf v4).toNat)
  case atStart => exact HS0.out
  case round =>
    obtain ⟨i, kk, cells, hi, rfl, hkk, hR, hB⟩ := hrel
    have HKK := Aside0.mk hkk
    have HR := Aside0.mk hR
    have HB := Aside0.mk hB
    clear hkk hR hB
    by_cases hlt : i < ks.length
    · have K := Aside0.mk (kidAt HV.out hlt (E := v.length) (kk := kk) (by have := HL.out; omega) HKK.out)
      obtain ⟨m, hm⟩ : ∃ m, m = (nodes ks[i]).length := ⟨_, rfl⟩
      rw [← hm] at K
      have hm1 := K.out.m1
      have hmE := K.out.mE
      obtain ⟨x, r, hat, hxs⟩ := K.out.at_
      have HAT := Aside0.mk hat
      obtain ⟨ad', e', ⟨-, -, -, p3, hl⟩, hkv⟩ := atN (Kd.C_below HC.out HB.out) hat
      obtain rfl : ad = ad' := by injection e'
      rw [hxs] at p3
      have hki : (kk : Int) < (v.length : Int) := by omega
      have hwk : IntKind.i64.wrap ((kk : Int) + (m : Int)) = ((kk + m : Nat) : Int) := by rw [i64_w, w64 (by omega) (by omega)]; omega
      have hcut := cut_mid 22 27 .i64 .i64 Tryz.underlying22 (Classical.choose_spec info27x).1 4 (Classical.choose_spec info27x).2 (some ad) v.length c (kk : Int) ((kk + m : Nat) : Int) (by omega) (by omega) (by omega) hc
      simp only [Int.toNat_natCast, Nat.add_sub_cancel_left] at hcut
      have hck : ¬ c = kk := by omega
      rw [if_neg hck] at hcut
      have hpart : (v.take (kk + m)).drop kk = nodes ks[i] := by
        obtain ⟨r', hr'⟩ := K.out.full
        rw [List.getD_eq_getElem?_getD, List.getElem?_eq_getElem hlt] at hr'
        have := take_drop_ (l := nodes ks[i]) (r := r') (v := v) (k := kk) hr'
        rwa [← hm] at this
      have HU : Aside0 (SliceN wr (fun b => b < w.heap.size ∧ some b ≠ u3.ownBlock) (.slice (some (ad.add (kk * 4))) m (c - kk)) (nodes ks[i])) := ⟨by
        have hCm := Kd.C_mid (Kd.C_below HC.out HB.out) (lo := kk) (hi := kk + m) (by omega) (by omega) hc
        rw [if_neg hck, hpart] at hCm
        refine ⟨some (ad.add (kk * 4)), c - kk, by rw [← hm], by rw [← hm]; omega, hCm, fun _ => ⟨_, rfl, ?_, fun e => ?_⟩⟩
        · rw [add_block]
          obtain ⟨ad2, e2, ⟨q0, -⟩, -⟩ := atN HC.out HAT.out
          obtain rfl : ad = ad2 := by injection e2
          have := World.block_lt_of_cell? w _ q0
          rwa [add_block] at this
        · rw [add_block] at e
          have h1 := (own_block HR.out.row _ e.symm).1
          obtain ⟨ad2, e2, ⟨q0, -⟩, -⟩ := atN HC.out HAT.out
          obtain rfl : ad = ad2 := by injection e2
          have := World.block_lt_of_cell? w _ q0
          rw [add_block] at this
          omega⟩
      have HQ3 : Aside0 (∀ W, Below w.heap.size w W → W.cell? ⟨(ad.add (kk * 4)).block, (ad.add (kk * 4)).off + 3, none⟩ = some (.int .i64 m)) := ⟨fun W hb => by
        obtain ⟨ad', e', ⟨-, -, -, q3, -⟩, -⟩ := atN (Kd.C_below HC.out hb) HAT.out
        obtain rfl : ad = ad' := by injection e'
        rwa [hxs] at q3⟩
      have hll : (ks.take i).length = i := by rw [List.length_take]; omega
      have HROW : Aside0 (wr.ownsRow w.heap.size 22 1 u3 i cells) := ⟨by have := HR.out.row; rwa [hll] at this⟩
      have HTK : Aside0 (ks.take (i + 1) = ks.take i ++ [ks[i]]) := ⟨by rw [List.take_add_one, List.getElem?_eq_getElem hlt]; rfl⟩
      have HLL := Aside0.mk hll
      have hl24 : (i + 1) * 24 ≤ 140737488355328 := by
        have h3 := nodesL_ge ks i hi
        have h4 := nodesL_succ ks i hlt
        have h5 := HKK.out
        omega
      clear hat e' hm hpart hll
      go_wp2_with (first
        | (at_builtin; refine print_append_cells (w0 := w) w.heap.size rfl (.tmp 16) (.tmp 27) 39 22 (.slice none 0 0) 1 24 rfl Tryz.underlying39 info22 rfl (by decide) (by decide) u3 i cells [.slice (some (ad.add (kk * 4))) m (c - kk)] rfl rfl rfl (by simp [Value.oneCell']) HROW.out HB.out HB.out.size hl24 ?_; intro v6 w6 hR6 hB6 hg6 hat6; have HN := Aside0.mk (HR.out.more HU.out (fun k hk => Nat.lt_of_lt_of_le hk HB.out.size) (by rw [HLL.out]; exact hR6) hg6 hat6); have HB6 := Aside0.mk hB6; have p3' := HQ3.out _ HB6.out; clear hR6 hB6 hg6 hat6)
        | fail)
      refine ⟨⟨i + 1, kk + m, _, hlt, by go_num, K.out.next, by rw [HTK.out]; exact HN.out, HB6.out⟩, by simp [intOf]; omega⟩
    · obtain rfl : i = ks.length := by omega
      have hkk := HKK.out
      have hki : ¬ ((kk : Int) < (v.length : Int)) := by
        have := HL.out
        rw [List.take_length] at hkk
        omega
      have HD : Aside0 (Rws wr w.heap.size (fun b => b < w.heap.size) u3 ks cells) := ⟨by have := HR.out; rwa [List.take_length] at this⟩
      clear hkk
      go_wp2_with fail
      go_ret
      exact ⟨_, rfl, ⟨_, HD.out⟩, HB.out⟩
theorem R_one {W : World} {base g : Nat} {x : V4} (hb : base ≤ g) (h : W.heap[g]? = some (.cells #[.int .i64 x.kind, .float .f64 x.num, .string x.text, .int .i64 x.size] 27 (0, 0))) : Kd.R k27 27 W base (fun _ => True) (.slice (some ⟨g, 0, none⟩) 1 1) [x] := by
  refine ⟨fun _ _ => trivial, cs4 x, ⟨rfl, .inr ⟨g, 1, _, rfl, hb, h, Nat.le_refl _, by unfold maxLen; omega, rfl, rfl⟩⟩, rfl, fun j p hj => ?_⟩
  obtain rfl : j = 0 := by
    have := (List.getElem?_eq_some_iff.1 hj).1
    simp at this
    omega
  simp at hj
  subst hj
  exact k27_mkM _ _ _ _
theorem R_sliceN {W : World} {base : Nat} {v : Value} {L : List V4} (h : Kd.R k27 27 W base (fun _ => True) v L) : SliceN W (New base W) v L := by
  obtain ⟨A, c, rfl, hc, hC⟩ := Kd.R_reads h
  refine ⟨A, c, rfl, hc, hC, fun h0 => ?_⟩
  obtain ⟨g, cap, e, hbg, hg, -⟩ := Kd.R_form h h0
  injection e with e1 e2 e3
  exact ⟨_, e1, hbg, hg⟩
/-- The loop of MadeValue. -/
def MdRel (w : World) (x : V4) (Ts : List Tr) (v5 v6 : Value) (wr : World) : Prop :=
  ∃ i : Nat, i ≤ Ts.length ∧ v6 = .int .i64 i ∧ Kd.R k27 27 wr w.heap.size (fun _ => True) v5 (x :: nodesL (Ts.take i)) ∧ Below w.heap.size w wr
theorem made_nodes (k : Int) (n : Nat) (t : ByteArray) (s : Int) (Ts : List Tr) : ((⟨k, n, t, s⟩ : V4) :: nodesL Ts).set 0 ⟨k, n, t, (((⟨k, n, t, s⟩ : V4) :: nodesL Ts).length : Int)⟩ = nodes (.mk k n t Ts) := by
  rw [List.set_cons_zero, nodes]
  simp
  omega
set_option maxHeartbeats 4000000 in
set_option maxRecDepth 100000 in
theorem made28_any (x : V4) (pv : Value) (B : Nat) (S : Nat → Prop) (Ts : List Tr) (cells : List Value) (w : World) (hR : Rws w B S pv Ts cells) (hS : ∀ k, S k → k < w.heap.size) (hl : (nodesL Ts).length ≤ 1000) :
    Calls Tryz.prog 28 #[val27 x, pv] w fun e w' => ∃ r, e = .returned r ∧ SliceN w' (New w.heap.size w') r (nodes (.mk x.kind x.num x.text Ts)) ∧ Below w.heap.size w w' := by
  obtain ⟨xk, xn, xt, xs⟩ := x
  obtain ⟨As, cs, rfl⟩ : ∃ As cs, pv = .slice As Ts.length cs := own_slice hR.row
  have HR := Aside0.mk hR
  have HS := Aside0.mk hS
  have hTl : Ts.length ≤ 1000 := by have := nodesL_ge Ts Ts.length (Nat.le_refl _); rw [List.take_length] at this; omega
  have HM0 : Aside0 (MdRel w ⟨xk, xn, xt, xs⟩ Ts (.slice (some ⟨w.heap.size + 1, 0, none⟩) 1 1) (.int .i64 0) ((w.alloc (.cells #[.int .i64 xk, .float .f64 xn, .string xt, .int .i64 xs] 27)).alloc (.cells #[.int .i64 xk, .float .f64 xn, .string xt, .int .i64 xs] 27))) := ⟨⟨0, Nat.zero_le _, rfl, by
    have h := blk_new (w.alloc (.cells #[.int .i64 xk, .float .f64 xn, .string xt, .int .i64 xs] 27)) (.cells #[.int .i64 xk, .float .f64 xn, .string xt, .int .i64 xs] 27)
    rw [size_alloc] at h
    exact R_one (by omega) h, below_alloc (below_one _ _) _⟩⟩
  clear hR hS
  go_enter Tryz.func28, Tryz.ntmps28
  go_wp2_with fail
  generalize (w.alloc (.cells #[.int .i64 xk, .float .f64 xn, .string xt, .int .i64 xs] 27)).alloc (.cells #[.int .i64 xk, .float .f64 xn, .string xt, .int .i64 xs] 27) = W0 at *
  go_loopw [5, 6] (fun v5 v6 wr => MdRel w ⟨xk, xn, xt, xs⟩ Ts v5 v6 wr) (fun _ v6 _ => Ts.length - (intOf v6).toNat)
  case atStart => exact HM0.out
  case round =>
    obtain ⟨i, hi, rfl, hR5, hB⟩ := hrel
    have HR5 := Aside0.mk hR5
    have HB := Aside0.mk hB
    clear hR5 hB
    by_cases hlt : i < Ts.length
    · have hki : (i : Int) < (Ts.length : Int) := by omega
      have hrow : wr.ownsRow 0 22 1 (.slice As Ts.length cs) Ts.length cells := own_lower (own_frame HR.out.row fun k hk => HB.out.block k (own_block HR.out.row k hk).2) (Nat.zero_le _)
      obtain ⟨g, c', u, he, hu, hcu⟩ := own_cell hrow i hlt
      obtain ⟨rfl, rfl⟩ : As = some ⟨g, 0, none⟩ ∧ cs = c' := by injection he with h1 h2 h3; exact ⟨h1, h3⟩
      obtain ⟨u', hu', hsl⟩ := HR.out.elem i Ts[i] (List.getElem?_eq_getElem hlt)
      rw [hu] at hu'
      injection hu' with hu'
      subst hu'
      have hsl2 := hsl.frame (w' := wr) (S' := fun _ => True) fun k hk => ⟨trivial, HB.out.block k (HS.out k hk.1)⟩
      obtain ⟨A', c2, rfl, hc2, hC2, -⟩ := hsl2
      have HC2 := Aside0.mk hC2
      have hn1 := nodesL_succ Ts i hlt
      have hn2 := congrArg List.length (nodesL_take Ts i hlt)
      simp only [List.length_append] at hn2
      have hl40 : ((⟨xk, xn, xt, xs⟩ :: nodesL (Ts.take i) : List V4).length + (nodes Ts[i]).length) * 40 ≤ 140737488355328 := by simp only [List.length_cons]; omega
      have HTK : Aside0 ((⟨xk, xn, xt, xs⟩ :: nodesL (Ts.take (i + 1)) : List V4) = (⟨xk, xn, xt, xs⟩ :: nodesL (Ts.take i)) ++ nodes Ts[i]) := ⟨by rw [List.take_add_one, List.getElem?_eq_getElem hlt, nodesL_append]; simp [nodesL]⟩
      obtain ⟨mm, hmm⟩ : ∃ mm, mm = (nodes Ts[i]).length := ⟨_, rfl⟩
      have HC3 : Aside0 (Kd.C k27 wr A' mm (nodes Ts[i])) := ⟨by rw [hmm]; exact hC2⟩
      rw [← hmm] at hcu hl40
      have hw1 : IntKind.i64.wrap ((i : Int) + 1) = ((i + 1 : Nat) : Int) := by rw [i64_w, w64 (by omega) (by omega)]; omega
      clear hrow he hu hsl hC2 hn1 hn2 hmm
      go_wp2_with (first
        | (at_builtin; refine Kd.R_append_rows k27 (Rr := k27.K wr) (w0 := w) w.heap.size rfl (.tmp 15) (.tmp 19) 22 27 (.agg #[.int .i64 0, .float .f64 0, .string ⟨#[]⟩, .int .i64 0]) 40 rfl Tryz.underlying22 info27 rfl (by decide) (by decide) u5 (⟨xk, xn, xt, xs⟩ :: nodesL (Ts.take i)) (nodes Ts[i]) A' mm c2 (fun _ => True) (fun _ => False) rfl rfl HR5.out HC3.out (fun x cs h => by rw [k27_open h]; exact k27_mkM _ _ _ _) (fun _ hk => hk.elim) (fun _ _ => trivial) HB.out HB.out.size hl40 ?_; intro v6 w6 hR6 hB6 hg6 hat6; have HN : Aside0 (MdRel w ⟨xk, xn, xt, xs⟩ Ts v6 (.int .i64 ((i + 1 : Nat) : Int)) w6) := ⟨⟨i + 1, hlt, rfl, by rw [HTK.out]; exact hR6, hB6⟩⟩; clear hR6 hB6 hg6 hat6)
        | fail)
      refine ⟨HN.out, by simp [intOf]; omega⟩
    · obtain rfl : i = Ts.length := by omega
      have hki : ¬ ((Ts.length : Int) < (Ts.length : Int)) := by omega
      have hR5 := HR5.out
      rw [List.take_length] at hR5
      obtain ⟨g, cap, rfl, hbg, hg, -⟩ := Kd.R_form hR5 (by simp)
      have hnn : ((⟨xk, xn, xt, xs⟩ : V4) :: nodesL Ts).length ≤ 1001 := by simp only [List.length_cons]; omega
      obtain ⟨n5, hn5⟩ : ∃ n5, n5 = ((⟨xk, xn, xt, xs⟩ : V4) :: nodesL Ts).length := ⟨_, rfl⟩
      have hn0 : 0 < n5 := by rw [hn5]; simp
      rw [← hn5] at hR5 hnn
      obtain ⟨hS, hG⟩ := size_set (k := 0) hR5 hn0 (n5 : Int) (x := ⟨xk, xn, xt, xs⟩) rfl
      obtain ⟨cc, hcl, hM, hcc, hf⟩ := Kd.R_elem hR5 none4 0 (by omega) (by omega)
      have hcs := k27_open (k27.K_of_M hM)
      subst hcs
      have c3 : wr.cell? ⟨g, 3, none⟩ = some (.int .i64 xs) := by
        have := hcc 3 _ rfl
        simpa using this
      have f3 : wr.frozen? ⟨g, 3, none⟩ = false := by simpa using hf 3
      have HF : Aside0 (SliceN (wr.setCell ⟨g, 3, none⟩ (.int .i64 n5)) (New w.heap.size (wr.setCell ⟨g, 3, none⟩ (.int .i64 n5))) (.slice (some ⟨g, 0, none⟩) n5 cap) (nodes (.mk xk xn xt Ts))) := ⟨by
        have h1 := R_sliceN hS
        rw [hn5, made_nodes] at h1
        rw [hn5]
        exact h1⟩
      have HBF : Aside0 (Below w.heap.size w (wr.setCell ⟨g, 3, none⟩ (.int .i64 n5))) := ⟨below_set HB.out hbg⟩
      have hn0i : (0 : Int) < (n5 : Int) := by omega
      rw [List.take_length, ← hn5] at *
      clear hcc hf hM hcl hS hG hR5 hn5
      go_wp2_with fail
      go_ret
      exact ⟨_, rfl, HF.out, HBF.out⟩
set_option maxHeartbeats 4000000 in
theorem one7_any (w : World) : Calls Tryz.prog 7 #[.int .i64 1] w fun e w' => ∃ r, e = .returned r ∧ IsL w' r (nodes (.mk 1 0 ⟨#[]⟩ [])) ∧ Below w.heap.size w w' := by
  have HF : Aside0 (IsL (w.alloc (.cells #[.int .i64 1, .float .f64 0, .string ⟨#[]⟩, .int .i64 1] 27)) (.slice (some ⟨w.heap.size, 0, none⟩) 1 1) (nodes (.mk 1 0 ⟨#[]⟩ []))) := ⟨(R_sliceN (R_one (x := ⟨1, 0, ⟨#[]⟩, 1⟩) (Nat.le_refl _) (blk_new w _))).isL⟩
  go_enter Tryz.func7, Tryz.ntmps7
  go_wp2_with fail
  go_ret
  exact ⟨_, rfl, HF.out, below_one _ _⟩
end Go.Proofs.YtdcfbgpcpjjjaaaGreat.Co
