/-
  impl.goOf at a list, walked.
-/
import Derived.Test.YtdcfbgpcpjjjaaaGreatGl
namespace Go.Proofs.YtdcfbgpcpjjjaaaGreat.Co
open Go.RowKit Go.Proofs.YtdcfbgpcpjjjaaaGreatW.PrintWords Go.Proofs.YtdcfbgpcpjjjaaaGreatW.PrintLast Go.Proofs.YtdcfbgpcpjjjaaaGreatW.PrintMore
open Go.Proofs.YtdcfbgpcpjjjaaaGreat.Fl Go.Proofs.YtdcfbgpcpjjjaaaGreat.Dr Go.Proofs.YtdcfbgpcpjjjaaaGreat.PFnFieldValueOf
open Go.Maps (Keyed)
set_option linter.unusedVariables false
set_option linter.unusedSimpArgs false
attribute [local go_sem] run_store_float
theorem RepG.form {w : World} {S : Nat → Prop} {V : Value} {t : Tr} (h : RepG w S V t) : V = .nilIface ∨ ∃ d u, V = .iface d u := by
  cases h <;> first | exact .inl rfl | exact .inr ⟨_, _, rfl⟩
theorem info20 : (Tryz.prog.info? 20).map (fun i => (i.zero, i.size, i.bytes)) = some (some .nilIface, 1, 16) := by kernel_rfl
theorem info27i : ∃ i, Tryz.prog.info? 27 = some i := by obtain ⟨i, h, -⟩ := info27x; exact ⟨i, h⟩
theorem nodesL_take (ks : List Tr) (i : Nat) (h : i < ks.length) : nodesL ks = nodesL (ks.take i) ++ (nodes ks[i] ++ nodesL (ks.drop (i + 1))) := by
  conv => lhs; rw [← List.take_append_drop i ks]
  rw [nodesL_append, List.drop_eq_getElem_cons h, nodesL]
theorem nodesL_succ (ks : List Tr) (i : Nat) (h : i < ks.length) : (nodesL (ks.take (i + 1))).length = (nodesL (ks.take i)).length + (nodes ks[i]).length := by
  rw [List.take_add_one, List.getElem?_eq_getElem h, nodesL_append]
  simp [nodesL]
theorem nodesL_ge (ks : List Tr) : ∀ i, i ≤ ks.length → i ≤ (nodesL (ks.take i)).length
  | 0, _ => Nat.zero_le _
  | i + 1, h => by
    have := nodesL_ge ks i (by omega)
    rw [nodesL_succ ks i (by omega)]
    have := nodes_pos ks[i]
    omega
theorem take_drop_ {v l r : List V4} {k : Nat} (h : v.drop k = l ++ r) : (v.take (k + l.length)).drop k = l := by
  rw [List.drop_take, h, Nat.add_sub_cancel_left, List.take_left]
theorem drop_more {v l r : List V4} {k : Nat} (h : v.drop k = l ++ r) : v.drop (k + l.length) = r := by
  rw [← List.drop_drop, h, List.drop_left]
/-- The nodes at a kid's place. -/
structure KidAt (v : List V4) (k : Nat) (ks : List Tr) (i : Nat) (E kk m : Nat) : Prop where
  here : (v.take E).drop kk = nodes (ks.getD i (.mk 0 0 ⟨#[]⟩ [])) ++ nodesL (ks.drop (i + 1))
  at_ : ∃ x r, v.drop kk = x :: r ∧ x.size = (m : Int)
  full : ∃ r, v.drop kk = nodes (ks.getD i (.mk 0 0 ⟨#[]⟩ [])) ++ r
  m1 : 1 ≤ m
  mE : kk + m ≤ E
  next : kk + m = k + 1 + (nodesL (ks.take (i + 1))).length
theorem kidAt {v : List V4} {k : Nat} {x : V4} {ks : List Tr} {post : List V4} (hv : v.drop k = x :: (nodesL ks ++ post)) {i : Nat} (hi : i < ks.length) {E kk : Nat} (hE : E = k + 1 + (nodesL ks).length) (hkk : kk = k + 1 + (nodesL (ks.take i)).length) :
    KidAt v k ks i E kk (nodes ks[i]).length := by
  have h1 : v.drop (k + 1) = nodesL ks ++ post := by
    rw [← List.drop_drop, hv]; rfl
  have h2 : (v.take E).drop (k + 1) = nodesL ks := by
    rw [hE]
    exact take_drop_ h1
  have hsp := nodesL_take ks i hi
  have h3 : (v.take E).drop kk = nodes ks[i] ++ nodesL (ks.drop (i + 1)) := by
    rw [hkk, ← List.drop_drop, h2]
    conv => lhs; rw [hsp]
    rw [List.drop_left]
  have h4 : v.drop kk = nodes ks[i] ++ (nodesL (ks.drop (i + 1)) ++ post) := by
    rw [hkk, ← List.drop_drop, h1]
    conv => lhs; rw [hsp]
    rw [List.append_assoc, List.drop_left, List.append_assoc]
  have hl := congrArg List.length hsp
  simp only [List.length_append] at hl
  refine ⟨by rw [List.getD_eq_getElem?_getD, List.getElem?_eq_getElem hi]; exact h3, ?_, ⟨_, by rw [List.getD_eq_getElem?_getD, List.getElem?_eq_getElem hi]; exact h4⟩, nodes_pos _, by omega, by rw [nodesL_succ ks i hi]; omega⟩
  generalize ks[i] = s at h4 ⊢
  obtain ⟨a, b, c, d⟩ := s
  simp only [nodes] at h4
  exact ⟨_, _, h4, by simp [nodes]; omega⟩
/-- The loop over the parts of a list. -/
def LRel (w : World) (k : Nat) (ks : List Tr) (v8 v9 : Value) (wr : World) : Prop :=
  ∃ (i kk : Nat) (Vs : List Value), i ≤ ks.length ∧ v9 = .int .i64 kk ∧ kk = k + 1 + (nodesL (ks.take i)).length ∧ Lst w.heap.size w wr v8 i ks Vs
set_option maxHeartbeats 4000000 in
set_option maxRecDepth 100000 in
theorem goOf_list (n : Nat) (ks : List Tr) (IH : ∀ s, s ∈ ks → GoesAt s) : GoesAt (.mk 7 n ⟨#[]⟩ ks) := by
  intro v k post A c w hv hC hc h300
  obtain ⟨L, hL⟩ : ∃ L, L = (nodesL ks).length := ⟨_, rfl⟩
  have hv : v.drop k = ⟨7, n, ⟨#[]⟩, 1 + (L : Int)⟩ :: (nodesL ks ++ post) := by rw [hv, hL]; simp [nodes]
  obtain ⟨ad, rfl, ⟨p0, p1, p2, p3, hl⟩, hk⟩ := atN hC hv
  have hEl : k + 1 + L ≤ v.length := by
    have := congrArg List.length hv
    rw [List.length_drop] at this
    simp at this
    omega
  have hd1 : decide ((v.length : Int) ≤ (k : Int)) = false := decide_eq_false (by omega)
  have hd0 : decide (v.length ≤ k) = false := decide_eq_false (by omega)
  have hd2 : decide ((1 + (L : Int)) < 1) = false := decide_eq_false (by omega)
  have hd3 : decide ((v.length : Int) - (k : Int) < 1 + (L : Int)) = false := decide_eq_false (by omega)
  have hki2 : (k : Int) < (v.length : Int) := by omega
  have hw : IntKind.i64.wrap ((k : Int) + (1 + (L : Int))) = ((k + 1 + L : Nat) : Int) := by rw [i64_w, w64 (by omega) (by omega)]; omega
  have hw2 : IntKind.i64.wrap ((k : Int) + 1) = ((k + 1 : Nat) : Int) := by rw [i64_w, w64 (by omega) (by omega)]; omega
  have HC := Aside0.mk hC
  have HV := Aside0.mk hv
  have HIH := Aside0.mk IH
  have HL := Aside0.mk hL
  clear hC hv IH hL
  dsimp only at p0 p1 p2 p3
  go_enter Tryz.func25, Tryz.ntmps25
  go_wp2_with fail
  go_region
  have HB0 : Aside0 (Below w.heap.size w (w.alloc (.cells #[.int .i64 7, .float .f64 n, .string ⟨#[]⟩, .int .i64 (1 + (L : Int))] 27)).drew) := ⟨below_drew (below_one _ _)⟩
  have hc0 : ((w.alloc (.cells #[.int .i64 7, .float .f64 n, .string ⟨#[]⟩, .int .i64 (1 + (L : Int))] 27)).drew).cell? ⟨w.heap.size, 0, none⟩ = some (.int .i64 7) := (blk_cell (blk_new w _) 0).trans rfl
  have hl0 := blk_lt (blk_new w (.cells #[.int .i64 7, .float .f64 n, .string ⟨#[]⟩, .int .i64 (1 + (L : Int))] 27))
  have hl0 : w.heap.size < ((w.alloc (.cells #[.int .i64 7, .float .f64 n, .string ⟨#[]⟩, .int .i64 (1 + (L : Int))] 27)).drew).heap.size := hl0
  generalize (w.alloc (.cells #[.int .i64 7, .float .f64 n, .string ⟨#[]⟩, .int .i64 (1 + (L : Int))] 27)).drew = W0 at *
  have HR0 : Aside0 (Lst w.heap.size w (W0.alloc (.cells #[] 20)) (.slice (some ⟨W0.heap.size, 0, none⟩) 0 0) 0 ks []) := ⟨Lst.start (World.ownsRow_lit W0 #[] 0 HB0.out.size (Nat.zero_le _) rfl) (below_alloc HB0.out _) (below_alloc HB0.out _).size⟩
  clear p0 p1 p2 p3
  go_wp2_with fail
  go_loopw [8, 9] (fun v8 v9 wr => LRel w k ks v8 v9 wr) (fun _ v9 _ => 1000 - (intOf v9).toNat)
  case atStart => exact ⟨0, k + 1, [], Nat.zero_le _, by go_num, by simp [nodesL], HR0.out⟩
  case round =>
    obtain ⟨i, kk, Vs, hi, rfl, hkk, hA⟩ := hrel
    have HKK := Aside0.mk hkk
    have HA := Aside0.mk hA
    clear hkk hA
    by_cases hlt : i < ks.length
    · have K := Aside0.mk (kidAt HV.out hlt (E := k + 1 + L) (kk := kk) (by rw [← HL.out]) HKK.out)
      obtain ⟨m, hm⟩ : ∃ m, m = (nodes ks[i]).length := ⟨_, rfl⟩
      rw [← hm] at K
      have hm1 := K.out.m1
      have hmE := K.out.mE
      obtain ⟨x, r, hat, hxs⟩ := K.out.at_
      have HAT := Aside0.mk hat
      clear hat
      have HQ3 : Aside0 (∀ W, Below w.heap.size w W → W.cell? ⟨(ad.add (kk * 4)).block, (ad.add (kk * 4)).off + 3, none⟩ = some (.int .i64 m)) := ⟨fun W hb => by
        obtain ⟨ad', e', ⟨-, -, -, q3, -⟩, -⟩ := atN (Kd.C_below HC.out hb) HAT.out
        obtain rfl : ad = ad' := by injection e'
        rwa [hxs] at q3⟩
      have hkE : (kk : Int) < (k : Int) + 1 + (L : Int) := by omega
      have hwk : IntKind.i64.wrap ((kk : Int) + (m : Int)) = ((kk + m : Nat) : Int) := by rw [i64_w, w64 (by omega) (by omega)]; omega
      have hcutE := cut_to 22 27 .i64 Tryz.underlying22 (Classical.choose_spec info27x).1 (some ad) v.length c ((k : Int) + 1 + (L : Int)) (by omega) (by omega) hc
      have eE : ((k : Int) + 1 + (L : Int)).toNat = k + 1 + L := by omega
      rw [eE] at hcutE
      have hlE : (v.take (k + 1 + L)).length = k + 1 + L := by rw [List.length_take]; omega
      have HX := Aside0.mk (HIH.out ks[i] (List.getElem_mem hlt) (v.take (k + 1 + L)) kk (nodesL (ks.drop (i + 1))) (some ad) c wr (by rw [K.out.here, List.getD_eq_getElem?_getD, List.getElem?_eq_getElem hlt]; rfl) (Kd.C_take (Kd.C_below HC.out HA.out.grw) hEl) (by omega) (by omega))
      rw [hlE] at HX
      have HKS := Aside0.mk (List.getElem?_eq_getElem hlt)
      have hl16 : (i + 1) * 16 ≤ 140737488355328 := by
        have h1 := hEl
        have h2 := HL.out
        have h3 := nodesL_ge ks i hi
        have h4 := nodesL_succ ks i hlt
        have h5 := HKK.out
        omega
      clear hm
      go_wp2_with fail
      refine HX.out.mono ?_
      rintro e w2 ⟨V, rfl, hV, hb⟩
      have HA2 := Aside0.mk (HA.out.below hb)
      have HV2 := Aside0.mk hV
      have HB2 := Aside0.mk hb
      have hform := hV.form
      clear hV hb
      rcases hform with rfl | ⟨d, u, rfl⟩
      · go_wp2_with (at_builtin; refine print_append_cells (w0 := w) w.heap.size rfl (.tmp 121) (.tmp 123) 89 20 .nilIface 1 16 rfl Tryz.underlying89 info20 rfl (by decide) (by decide) u8 i Vs [.nilIface] rfl rfl rfl (by simp [Value.oneCell']) HA2.out.row HA2.out.grw HA2.out.base hl16 ?_; intro v6 w6 hR6 hB6 hg6 hat6; have HN := Aside0.mk (HA.out.more HKS.out HV2.out HB2.out hR6 hg6 hat6 hB6); have q3 := HQ3.out _ HN.out.grw; clear hR6 hB6 hg6 hat6)
        go_roundw
        case rel => exact ⟨i + 1, kk + m, _, hlt, by go_num, K.out.next, HN.out⟩
        case measure => simp [intOf]; omega
      · go_wp2_with (at_builtin; refine print_append_cells (w0 := w) w.heap.size rfl (.tmp 121) (.tmp 123) 89 20 .nilIface 1 16 rfl Tryz.underlying89 info20 rfl (by decide) (by decide) u8 i Vs [.iface d u] rfl rfl rfl (by simp [Value.oneCell']) HA2.out.row HA2.out.grw HA2.out.base hl16 ?_; intro v6 w6 hR6 hB6 hg6 hat6; have HN := Aside0.mk (HA.out.more HKS.out HV2.out HB2.out hR6 hg6 hat6 hB6); have q3 := HQ3.out _ HN.out.grw; clear hR6 hB6 hg6 hat6)
        obtain ⟨ad', e', ⟨-, -, -, q3, -⟩, -⟩ := atN (Kd.C_below HC.out HN.out.grw) HAT.out
        obtain rfl : ad = ad' := by injection e'
        rw [hxs] at q3
        go_wp2_with fail
        go_roundw
        case rel => exact ⟨i + 1, kk + m, _, hlt, by go_num, K.out.next, HN.out⟩
        case measure => simp [intOf]; omega
    · obtain rfl : i = ks.length := by omega
      have hkk := HKK.out
      rw [List.take_length, ← HL.out] at hkk
      subst hkk
      have hkE : ¬ (((k + 1 + L : Nat) : Int) < (k : Int) + 1 + (L : Int)) := by omega
      have HD := Aside0.mk (HA.out.done n)
      go_wp2_with fail
      go_ret2
      exact ⟨_, rfl, HD.out, HA.out.grw⟩
end Go.Proofs.YtdcfbgpcpjjjaaaGreat.Co
