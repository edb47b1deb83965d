/-
  impl.goOf at every right tree; impl.whole.
-/
import Derived.Test.YtdcfbgpcpjjjaaaGreatGn
namespace Go.Proofs.YtdcfbgpcpjjjaaaGreat.Co
open Go.RowKit Go.Proofs.YtdcfbgpcpjjjaaaGreatW.PrintWords Go.Proofs.YtdcfbgpcpjjjaaaGreatW.PrintLast Go.Proofs.YtdcfbgpcpjjjaaaGreatW.PrintMore
open Go.Proofs.YtdcfbgpcpjjjaaaGreat.Fl Go.Proofs.YtdcfbgpcpjjjaaaGreat.Dr Go.Proofs.YtdcfbgpcpjjjaaaGreat.PFnFieldValueOf
open Go.Maps (Keyed)
set_option linter.unusedVariables false
set_option linter.unusedSimpArgs false
attribute [local go_sem] run_store_float
set_option maxHeartbeats 4000000 in
set_option maxRecDepth 100000 in
theorem goOf_obj (n : Nat) (ms : List Mb) (hz : ∀ m, m ∈ ms → m.name.size ≤ 100) (hd : (ms.map Mb.name).Nodup) (IH : ∀ m, m ∈ ms → GoesAt m.val) : GoesAt (.mk 8 n ⟨#[]⟩ (ms.map Mb.tree)) := by
  intro v k post A c w hv hC hc h300
  obtain ⟨L, hL⟩ : ∃ L, L = (nodesL (ms.map Mb.tree)).length := ⟨_, rfl⟩
  have hv : v.drop k = ⟨8, n, ⟨#[]⟩, 1 + (L : Int)⟩ :: (nodesL (ms.map Mb.tree) ++ post) := by rw [hv, hL]; simp [nodes]
  have HM := Aside0.mk (fun W (hb : Below w.heap.size w W) => membersOf_any n ms hz hd IH v k post A c W L hL hv (Kd.C_below hC hb) hc h300)
  obtain ⟨ad, rfl, ⟨p0, p1, p2, p3, hl⟩, hk⟩ := atN hC hv
  have hEl : k + 1 + L ≤ v.length := by
    have := congrArg List.length hv
    rw [List.length_drop] at this
    simp at this
    omega
  have hd1 : decide ((v.length : Int) ≤ (k : Int)) = false := decide_eq_false (by omega)
  have hd0 : decide (v.length ≤ k) = false := decide_eq_false (by omega)
  have hd2 : decide ((1 + (L : Int)) < 1) = false := decide_eq_false (by omega)
  have hd3 : decide ((v.length : Int) - (k : Int) < 1 + (L : Int)) = false := decide_eq_false (by omega)
  have hki2 : (k : Int) < (v.length : Int) := by omega
  have hw : IntKind.i64.wrap ((k : Int) + (1 + (L : Int))) = ((k + 1 + L : Nat) : Int) := by rw [i64_w, w64 (by omega) (by omega)]; omega
  clear hC hv IH hL hd hz
  dsimp only at p0 p1 p2 p3
  go_enter Tryz.func25, Tryz.ntmps25
  go_wp2_with fail
  go_region
  have HB0 : Aside0 (Below w.heap.size w (w.alloc (.cells #[.int .i64 8, .float .f64 n, .string ⟨#[]⟩, .int .i64 (1 + (L : Int))] 27)).drew) := ⟨below_drew (below_one _ _)⟩
  go_wp2_with fail
  refine (HM.out _ HB0.out).mono ?_
  rintro e w2 ⟨V, rfl, hV, hb⟩
  have HV : Aside0 (RepG w2 (New w.heap.size w2) V (.mk 8 n ⟨#[]⟩ (ms.map Mb.tree))) := ⟨hV.frame fun k hk => ⟨⟨Nat.le_trans HB0.out.size hk.1, hk.2⟩, rfl⟩⟩
  have HB2 := Aside0.mk (below_step HB0.out hb)
  clear hV hb
  go_wp2_with fail
  go_ret2
  exact ⟨_, rfl, HV.out, HB2.out⟩
theorem mem_len {ks : List Tr} {s : Tr} (h : s ∈ ks) : (nodes s).length ≤ (nodesL ks).length := by
  induction ks with
  | nil => simp at h
  | cons a r ih =>
    rw [nodesL, List.length_append]
    rcases List.mem_cons.1 h with rfl | h
    · omega
    · have := ih h; omega
theorem goes_any : ∀ n t, TR true t → (nodes t).length ≤ n → GoesAt t
  | 0, t, _, hl => by have := nodes_pos t; omega
  | n + 1, t, h, hl => by
    cases h with
    | nul n hn => exact goOf_nul n
    | tru n hn => exact goOf_tru n
    | fls n hn => exact goOf_fls n
    | err n hn he => exact goOf_err n
    | int n hn => exact goOf_int n hn
    | flt n hn => exact goOf_flt n
    | str n t hn ht => exact goOf_str n t
    | list m ks hn hk =>
      refine goOf_list m ks fun s hs => goes_any n s (hk s hs) ?_
      have := mem_len hs
      simp [nodes] at hl
      omega
    | obj m ms hn hz hd hk =>
      refine goOf_obj m ms (fun x hx => (hz x hx).2) hd fun x hx => goes_any n x.val (hk x hx) ?_
      have h1 := mem_len (List.mem_map_of_mem (f := Mb.tree) hx)
      have h2 : (nodes x.tree).length = 1 + (nodes x.val).length := by simp [Mb.tree, nodes, nodesL]; omega
      simp [nodes] at hl
      omega
set_option maxHeartbeats 4000000 in
theorem whole_any (t : Tr) (h : TR true t) (v : List V4) (hv : nodes t = v) (A : Option Addr) (c : Nat) (w : World) (hC : Kd.C k27 w A v.length v) (hc : v.length ≤ c) (h300 : v.length ≤ 300) :
    Calls Tryz.prog 15 #[.slice A v.length c] w fun e w' => ∃ V, e = .returned (.tuple #[V, .bool true]) ∧ RepG w' (New w.heap.size w') V t ∧ Below w.heap.size w w' := by
  have HG := Aside0.mk (goes_any _ t h (Nat.le_refl _) v 0 [] A c w (by rw [List.drop_zero, List.append_nil, hv]) hC hc h300)
  have h0 : 0 < v.length := by rw [← hv]; exact nodes_pos t
  obtain ⟨ad, rfl, -, -, -, p3⟩ := at0_27 hC h0
  have hs : (rd27 v 0).size = (v.length : Int) := by
    rw [← hv]
    obtain ⟨a, b, c, d⟩ := t
    simp [nodes, rd27]
    omega
  rw [hs] at p3
  have hlt : (0 : Int) < (v.length : Int) := by omega
  have hne : ((v.length : Int) == 0) = false := beq_eq_false_iff_ne.2 (by omega)
  clear hC hs hv
  go_enter Tryz.func15, Tryz.ntmps15
  go_wp2_with fail
  refine HG.out.mono ?_
  rintro e w1 ⟨V, rfl, hV, hb⟩
  have HV := Aside0.mk hV
  have HB := Aside0.mk hb
  clear hV hb
  go_wp2_with fail
  go_ret2
  exact ⟨V, rfl, HV.out, HB.out⟩
end Go.Proofs.YtdcfbgpcpjjjaaaGreat.Co
