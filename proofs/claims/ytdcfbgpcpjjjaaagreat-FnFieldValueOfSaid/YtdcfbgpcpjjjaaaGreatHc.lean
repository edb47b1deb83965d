/-
  The sizes of a value's nodes; spec.MemberOf, walked.
-/
import Derived.Sort.Walk0
import Derived.Test.YtdcfbgpcpjjjaaaGreatHa
import Derived.Test.YtdcfbgpcpjjjaaaGreatGu
namespace Go.Proofs.YtdcfbgpcpjjjaaaGreat.Co
open Go.RowKit Go.Proofs.YtdcfbgpcpjjjaaaGreatW.PrintWords Go.Proofs.YtdcfbgpcpjjjaaaGreatW.PrintLast Go.Proofs.YtdcfbgpcpjjjaaaGreatW.PrintMore
open Go.Proofs.YtdcfbgpcpjjjaaaGreat.Fl Go.Proofs.YtdcfbgpcpjjjaaaGreat.Dr Go.Proofs.YtdcfbgpcpjjjaaaGreat.PFnFieldValueOf
set_option linter.unusedVariables false
set_option linter.unusedSimpArgs false
attribute [local go_sem] run_store_float
set_option maxHeartbeats 4000000 in
theorem fits5_any (x : V4) (w : World) : Calls Tryz.prog 11 #[val27 x] w fun e w' => Ans e ∧ Below w.heap.size w w' := by
  obtain ⟨xk, xn, xt, xs⟩ := x
  by_cases h : 2147483647 < xt.size
  · have h' : decide (2147483647 < (xt.size : Int)) = true := decide_eq_true (by omega)
    go_enter Tryz.func11, Tryz.ntmps11
    go_wp2_with fail
    go_ret
    exact ⟨Ans.mk _, below_one _ _⟩
  · have h' : decide (2147483647 < (xt.size : Int)) = false := decide_eq_false (by omega)
    go_enter Tryz.func11, Tryz.ntmps11
    go_wp2_with fail
    go_ret
    exact ⟨Ans.mk _, below_one _ _⟩
set_option maxHeartbeats 4000000 in
theorem fits4_any (v : List V4) (A : Option Addr) (c : Nat) (w : World) (h : Kd.C k27 w A v.length v) (hc : v.length ≤ c) :
    Calls Tryz.prog 4 #[.slice A v.length c] w fun e w' => Ans e ∧ Below w.heap.size w w' := by
  have HC := Aside0.mk h
  clear h
  by_cases h : 2147483647 < v.length
  · have h' : decide (2147483647 < (v.length : Int)) = true := decide_eq_true (by omega)
    go_enter Tryz.func4, Tryz.ntmps4
    go_wp2_with fail
    go_ret
    exact ⟨Ans.mk _, Below.refl _ _⟩
  · have h' : decide (2147483647 < (v.length : Int)) = false := decide_eq_false (by omega)
    go_enter Tryz.func4, Tryz.ntmps4
    go_wp2_with fail
    go_loopw [10] (fun v10 wr => ∃ i : Nat, i ≤ v.length ∧ v10 = .int .i64 i ∧ Aside0 (Below w.heap.size w wr)) (fun v10 _ => v.length - (intOf v10).toNat)
    case atStart => exact ⟨0, Nat.zero_le _, rfl, ⟨Below.refl _ _⟩⟩
    case round =>
      obtain ⟨i, hi, rfl, HB⟩ := hrel
      by_cases hlt : i < v.length
      · have hki : (i : Int) < (v.length : Int) := by omega
        have hw1 : IntKind.i64.wrap ((i : Int) + 1) = ((i + 1 : Nat) : Int) := by rw [i64_w]; unfold wrap64; omega
        obtain ⟨ad, rfl, p0, p1, p2, p3⟩ := at_27 (Kd.C_below HC.out HB.out) (i : Int) (by omega) hki
        rw [Int.toNat_natCast] at p0 p1 p2 p3
        generalize rd27 v (i : Int) = x at p0 p1 p2 p3
        obtain ⟨xk, xn, xt, xs⟩ := x
        dsimp only at p0 p1 p2 p3
        have HF := Aside0.mk (fits5_any ⟨xk, xn, xt, xs⟩)
        go_wp2_with fail
        refine (HF.out _).mono ?_
        rintro e w1 ⟨⟨b, rfl⟩, hb⟩
        have HB1 := Aside0.mk (below_step (below_then HB.out HB.out.size (below_one wr _)) hb)
        clear hb
        cases b with
        | false =>
          go_wp2_with fail
          go_ret
          exact ⟨Ans.mk _, HB1.out⟩
        | true =>
          go_wp2_with fail
          go_roundw
          case rel => exact ⟨i + 1, by omega, by go_num, ⟨HB1.out⟩⟩
          case measure => simp [intOf]; omega
      · obtain rfl : i = v.length := by omega
        have hki : ¬ ((v.length : Int) < (v.length : Int)) := by omega
        go_wp2_with fail
        go_ret
        exact ⟨Ans.mk _, HB.out⟩
theorem MemberT.right {t t2 : Tr} {field : ByteArray} (h : MemberT t field t2) (ht : TR true t) : TR true t2 := by
  cases h with
  | there n ms m hm =>
    generalize he : ms.map Mb.tree = L at ht
    cases ht with
    | obj _ ms' hn hz hd hk =>
      obtain rfl := trees_inj he
      exact hk m hm
  | absent n ms field h => exact .nul 0 (by decide)
  | other t field h => exact .nul 0 (by decide)
/-- What MemberOf answers. -/
def MoPost (t : Tr) (field : ByteArray) (v : List V4) (w : World) (e : Ending) (w' : World) : Prop :=
  ∃ r b, e = .returned (.tuple #[r, .bool b]) ∧ ((b = true ∧ ∃ t2, MemberT t field t2 ∧ (nodes t2).length ≤ v.length ∧ IsL w' r (nodes t2)) ∨ (b = false ∧ r = .slice none 0 0 ∧ MemberT t field nullT)) ∧ Below w.heap.size w w'
/-- The loop of MemberOf. -/
def MoRel (w1 : World) (field : ByteArray) (ms : List Mb) (v7 : Value) (wr : World) : Prop :=
  ∃ i : Nat, i ≤ ms.length ∧ v7 = .int .i64 i ∧ wr = w1 ∧ field ∉ (ms.take i).map Mb.name
set_option maxHeartbeats 4000000 in
set_option maxRecDepth 100000 in
theorem member8_no (t : Tr) (v : List V4) (hv : nodes t = v) (h8 : t.kind ≠ 8) (field : ByteArray) (A : Option Addr) (c : Nat) (w : World) (hC : Kd.C k27 w A v.length v) (hc : v.length ≤ c) :
    Calls Tryz.prog 8 #[.slice A v.length c, .string field] w fun e w' => e = .returned (.tuple #[.slice none 0 0, .bool false]) ∧ Below w.heap.size w w' := by
  obtain ⟨k, n, tx, ks⟩ := t
  have hvd : v.drop 0 = ⟨k, n, tx, 1 + (nodesL ks).length⟩ :: nodesL ks := by rw [List.drop_zero, ← hv]; simp [nodes]
  obtain ⟨ad, rfl, ⟨p0, p1, p2, p3, hl⟩, hk0⟩ := atN hC hvd
  rw [Nat.zero_mul, Addr.add_zero'] at p0 p1 p2 p3
  have hne : ((v.length : Int) == 0) = false := by rw [beq_eq_false_iff_ne]; omega
  have h8' : (k == 8) = false := beq_eq_false_iff_ne.2 h8
  clear hC hvd hv h8
  dsimp only at p0
  go_enter Tryz.func8, Tryz.ntmps8
  go_wp2_with fail
  go_ret2
  exact ⟨rfl, Below.refl _ _⟩
set_option maxHeartbeats 4000000 in
set_option maxRecDepth 100000 in
theorem member8_obj (n : Nat) (ms : List Mb) (v : List V4) (hv : nodes (.mk 8 n ⟨#[]⟩ (ms.map Mb.tree)) = v) (field : ByteArray) (A : Option Addr) (c : Nat) (w : World) (hC : Kd.C k27 w A v.length v) (hc : v.length ≤ c) (h300 : v.length ≤ 1000) :
    Calls Tryz.prog 8 #[.slice A v.length c, .string field] w fun e w' => MoPost (.mk 8 n ⟨#[]⟩ (ms.map Mb.tree)) field v w e w' := by
  have HP := Aside0.mk (parts14_any 8 n ⟨#[]⟩ (ms.map Mb.tree) v hv A c w hC hc h300)
  have hvd : v.drop 0 = ⟨8, n, ⟨#[]⟩, 1 + (nodesL (ms.map Mb.tree)).length⟩ :: nodesL (ms.map Mb.tree) := by rw [List.drop_zero, ← hv]; simp [nodes]
  have HVL : Aside0 (v.length = 1 + (nodesL (ms.map Mb.tree)).length) := ⟨by rw [← hv]; simp [nodes]; omega⟩
  obtain ⟨ad, rfl, ⟨p0, p1, p2, p3, hl⟩, hk0⟩ := atN hC hvd
  rw [Nat.zero_mul, Addr.add_zero'] at p0 p1 p2 p3
  have hne : ((v.length : Int) == 0) = false := by rw [beq_eq_false_iff_ne]; omega
  clear hC hvd hv
  dsimp only at p0
  go_enter Tryz.func8, Tryz.ntmps8
  go_wp2_with fail
  refine HP.out.mono ?_
  rintro e w1 ⟨pv, rfl, ⟨cells, hR⟩, hb⟩
  have HR := Aside0.mk hR
  have HB := Aside0.mk hb
  have hml : (ms.map Mb.tree).length = ms.length := List.length_map _
  obtain ⟨As, cs, rfl⟩ : ∃ As cs, pv = .slice As ms.length cs := by have := own_slice hR.row; rwa [hml] at this
  have HRO : Aside0 (w1.ownsRow 0 22 1 (.slice As ms.length cs) ms.length cells) := ⟨own_lower (by have := hR.row; rwa [hml] at this) (Nat.zero_le _)⟩
  have hm300 : ms.length ≤ 1000 := by
    have := nodesL_ge (ms.map Mb.tree) ms.length (by rw [hml]; exact Nat.le_refl _)
    have h2 := HVL.out
    rw [List.take_of_length_le (by rw [hml]; exact Nat.le_refl _)] at this
    omega
  have HM0 : Aside0 (MoRel w1 field ms (.int .i64 0) w1) := ⟨⟨0, Nat.zero_le _, rfl, rfl, by simp⟩⟩
  clear hR hb p0 p1 p2 p3 HP
  go_wp2_with fail
  go_loopw [7] (fun v7 wr => MoRel w1 field ms v7 wr) (fun v7 _ => ms.length - (intOf v7).toNat)
  case atStart => exact HM0.out
  case round =>
    obtain ⟨i, hi, rfl, rfl, hno⟩ := hrel
    have HNO := Aside0.mk hno
    clear hno
    by_cases hlt : i < ms.length
    · have hki : (i : Int) < (ms.length : Int) := by omega
      have hget : (ms.map Mb.tree)[i]? = some (ms[i]).tree := by rw [List.getElem?_map, List.getElem?_eq_getElem hlt]; rfl
      obtain ⟨g, c', u, he, hu, hcu⟩ := own_cell HRO.out i hlt
      obtain ⟨rfl, rfl⟩ : As = some ⟨g, 0, none⟩ ∧ cs = c' := by injection he with h1 h2 h3; exact ⟨h1, h3⟩
      obtain ⟨u', hu', hsl⟩ := HR.out.elem i _ hget
      rw [hu] at hu'
      injection hu' with hu'
      subst hu'
      obtain ⟨A', c2, rfl, hc2, hC2, hS2⟩ := hsl
      have hnt : nodes (ms[i]).tree = ⟨9, (ms[i]).num, (ms[i]).name, 1 + (nodesL [(ms[i]).val]).length⟩ :: nodes (ms[i]).val := by simp [Mb.tree, nodes, nodesL]
      obtain ⟨ad2, rfl, ⟨q0, q1, q2, q3, -⟩, hk1⟩ := atN hC2 (k := 0) (by rw [List.drop_zero]; exact hnt)
      rw [Nat.zero_mul, Addr.add_zero'] at q0 q1 q2 q3
      dsimp only at q2
      obtain ⟨mm, hmm⟩ : ∃ mm, mm = (nodes (ms[i]).tree).length := ⟨_, rfl⟩
      have hmv : mm = 1 + (nodes (ms[i]).val).length := by rw [hmm, hnt]; simp; omega
      have hm1 : 0 < mm := by omega
      have hmle : Aside0 ((nodes (ms[i]).val).length ≤ v.length) := ⟨by
        have h1 := nodesL_succ (ms.map Mb.tree) i (by rw [hml]; exact hlt)
        have h2 : (nodesL ((ms.map Mb.tree).take (i + 1))).length ≤ (nodesL (ms.map Mb.tree)).length := by
          have := congrArg (fun l => (nodesL l).length) (List.take_append_drop (i + 1) (ms.map Mb.tree))
          simp only [nodesL_append, List.length_append] at this
          omega
        have h3 := HVL.out
        rw [List.getElem_map, ← hmm] at h1
        omega⟩
      have hDR : Aside0 (IsL wr (.slice (if c2 = 1 then some ad2 else (some ad2).map (·.add (1 * 4))) (mm - 1) (c2 - 1)) (nodes (ms[i]).val)) := ⟨by
        have h1 := Kd.C_drop (m := 1) hC2 (by omega) hc2
        have h2 : (nodes (ms[i]).tree).drop 1 = nodes (ms[i]).val := by rw [hnt]; rfl
        rw [h2] at h1
        exact ⟨if c2 = 1 then some ad2 else (some ad2).map (·.add (1 * 4)), c2 - 1, by rw [show mm - 1 = (nodes (ms[i]).val).length by omega], by omega, h1⟩⟩
      have hcut := cut_from 22 27 .i64 Tryz.underlying22 (Classical.choose_spec info27x).1 4 (Classical.choose_spec info27x).2 (some ad2) mm c2 (1 : Int) (by omega) (by omega)
      simp only [Int.toNat_one] at hcut
      rw [← hmm] at hcu
      obtain ⟨A3, hA3⟩ : ∃ A3, A3 = (if c2 = 1 then some ad2 else (some ad2).map (·.add (1 * 4))) := ⟨_, rfl⟩
      obtain ⟨m3, hm3⟩ : ∃ m3, m3 = mm - 1 := ⟨_, rfl⟩
      obtain ⟨c3, hc3⟩ : ∃ c3, c3 = c2 - 1 := ⟨_, rfl⟩
      rw [← hA3, ← hm3, ← hc3] at hcut hDR
      have hw1 : IntKind.i64.wrap ((i : Int) + 1) = ((i + 1 : Nat) : Int) := by rw [i64_w, w64 (by omega) (by omega)]; omega
      have hmem : ms[i] ∈ ms := List.getElem_mem hlt
      have HE : Aside0 ((ms[i]).name.toList = field.toList → (ms[i]).name = field) := ⟨fun h => by rw [ByteArray.toList_eq, ByteArray.toList_eq] at h; exact ByteArray.ext (Array.toList_inj.1 h)⟩
      generalize hnm : (ms[i]).name = nm at q2 HE
      have HNM := Aside0.mk hnm
      have HHM := Aside0.mk hmem
      clear hnm hmem he hu hC2 hS2 hnt hmm hA3 hm3 hc3 hmv
      cases hq : (nm.toList == field.toList) with
      | true =>
        go_wp2_with fail
        go_ret2
        refine ⟨_, _, rfl, .inl ⟨rfl, (ms[i]).val, ?_, hmle.out, hDR.out⟩, HB.out⟩
        have : field = (ms[i]).name := by rw [HNM.out]; exact (HE.out (by simpa using hq)).symm
        rw [this]
        exact .there n ms _ HHM.out
      | false =>
        go_wp2_with fail
        refine ⟨⟨i + 1, hlt, by go_num, rfl, ?_⟩, by simp [intOf]; omega⟩
        rw [List.take_add_one, List.getElem?_eq_getElem hlt, List.map_append]
        intro hm
        rcases List.mem_append.1 hm with h | h
        · exact HNO.out h
        · simp at h
          rw [HNM.out] at h
          rw [h] at hq
          simp at hq
    · obtain rfl : i = ms.length := by omega
      have hki : ¬ ((ms.length : Int) < (ms.length : Int)) := by omega
      go_wp2_with fail
      go_ret2
      have h := HNO.out
      rw [List.take_length] at h
      exact ⟨_, _, rfl, .inr ⟨rfl, rfl, .absent n ms field h⟩, HB.out⟩
/-- The order of texts, as the program has it. -/
def tlt (a b : Tr) : Bool := Op.bytesLess a.text.toList b.text.toList
theorem tlt_eq (a b : Tr) : tlt a b = decide (a.text.data.toList < b.text.data.toList) := by
  unfold tlt
  rw [bytesLess_eq, ByteArray.toList_eq, ByteArray.toList_eq]
/-- a comes before b, or is the same. -/
def tle (a b : Tr) : Prop := tlt b a = false
theorem tle_trans {a b c : Tr} (h : tle a b) (h' : tle b c) : tle a c := by
  unfold tle at *
  rw [tlt_eq, decide_eq_false_iff_not] at *
  exact List.not_lt.2 (List.le_trans (List.not_lt.1 h) (List.not_lt.1 h'))
theorem tle_of_tlt {a b : Tr} (h : tlt a b = true) : tle a b := by
  unfold tle
  rw [tlt_eq, decide_eq_true_eq] at h
  rw [tlt_eq, decide_eq_false_iff_not]
  exact List.not_lt.2 (List.le_of_lt h)
/-- A tree, sorted. -/
inductive SortedOf : Tr → Tr → Prop
  | mk (k : Int) (n : Nat) (tx : ByteArray) (ks qs ps : List Tr) (hl : qs.length = ks.length) (hq : ∀ (i : Nat) (t t' : Tr), ks[i]? = some t → qs[i]? = some t' → SortedOf t t') (hp : ps.Perm qs) (h8 : k = 8 → ps.Pairwise tle) (hn : k ≠ 8 → ps = qs) : SortedOf (.mk k n tx ks) (.mk k n tx ps)
/-- One element under way into its place. -/
structure Ins (A C : List Tr) (x : Tr) : Prop where
  srt : (A ++ C).Pairwise tle
  more : ∀ c, c ∈ C → tlt x c = true
theorem Ins.start {P : List Tr} {x : Tr} (h : P.Pairwise tle) : Ins P [] x := ⟨by simpa using h, fun c hc => by simp at hc⟩
theorem Ins.step {A C : List Tr} {a x : Tr} (h : Ins (A ++ [a]) C x) (hlt : tlt x a = true) : Ins A (a :: C) x := by
  refine ⟨by have := h.srt; rw [List.append_assoc] at this; exact this, fun c hc => ?_⟩
  rcases List.mem_cons.1 hc with rfl | hc
  · exact hlt
  · exact h.more c hc
theorem Ins.stop {A C : List Tr} {x : Tr} (h : Ins A C x) (ha : A = [] ∨ ∃ A' a, A = A' ++ [a] ∧ tlt x a = false) : (A ++ x :: C).Pairwise tle := by
  have hs := List.pairwise_append.1 h.srt
  refine List.pairwise_append.2 ⟨hs.1, List.pairwise_cons.2 ⟨fun c hc => tle_of_tlt (h.more c hc), hs.2.1⟩, fun a hA b hb => ?_⟩
  rcases List.mem_cons.1 hb with rfl | hb
  · rcases ha with rfl | ⟨A', l, rfl, hl⟩
    · simp at hA
    · rcases List.mem_append.1 hA with h1 | h1
      · have h2 := (List.pairwise_append.1 hs.1).2.2 a h1 l (by simp)
        exact tle_trans h2 hl
      · rw [List.mem_singleton.1 h1]; exact hl
  · exact hs.2.2 a hA b hb
theorem ins_perm {A C qs : List Tr} {x : Tr} (h : (A ++ C).Perm qs) : (A ++ x :: C).Perm (qs ++ [x]) :=
  (List.perm_middle).trans ((List.Perm.cons x h).trans (List.perm_append_singleton x qs).symm)
/-- A list's place, put. -/
theorem set_mid {α : Type} (A B : List α) (x y : α) : (A ++ x :: B).set A.length y = A ++ y :: B := by
  rw [List.set_append_right _ _ (Nat.le_refl _), Nat.sub_self]; rfl
/-- The head of a slice of a tree's nodes. -/
theorem SliceN.head {w : World} {S : Nat → Prop} {v : Value} {t : Tr} (h : SliceN w S v (nodes t)) : ∃ ad c, v = .slice (some ad) (nodes t).length c ∧ (nodes t).length ≤ c ∧ S ad.block ∧ w.cell? ad = some (.int .i64 t.kind) ∧ w.cell? ⟨ad.block, ad.off + 1, none⟩ = some (.float .f64 t.num) ∧
    w.cell? ⟨ad.block, ad.off + 2, none⟩ = some (.string t.text) ∧ w.cell? ⟨ad.block, ad.off + 3, none⟩ = some (.int .i64 (nodes t).length) := by
  obtain ⟨A, c, rfl, hc, hC, hS⟩ := h
  obtain ⟨ad, rfl, hs⟩ := hS (nodes_pos t)
  cases t with
  | mk k n tx ks =>
    obtain ⟨ad', e, ⟨q0, q1, q2, q3, -⟩, -⟩ := atN hC (k := 0) (by rw [List.drop_zero, nodes])
    injection e with e
    subst e
    rw [Nat.zero_mul, Addr.add_zero'] at q0 q1 q2 q3
    refine ⟨ad, c, rfl, hc, hs, q0, q1, q2, ?_⟩
    rw [q3]
    simp [nodes]
    omega
theorem Rws.frame {w w' : World} {B : Nat} {S S' : Nat → Prop} {v : Value} {Ts : List Tr} {cells : List Value} (h : Rws w B S v Ts cells) (hs : ∀ k, S k → S' k ∧ w'.heap[k]? = w.heap[k]?) (ho : ∀ k, v.ownBlock = some k → w'.heap[k]? = w.heap[k]?) : Rws w' B S' v Ts cells := by
  refine ⟨own_frame h.row ho, fun i t ht => ?_⟩
  obtain ⟨u, hu, hU⟩ := h.elem i t ht
  exact ⟨u, hu, hU.frame fun k hk => ⟨⟨(hs k hk.1).1, hk.2⟩, (hs k hk.1).2⟩⟩
/-- The row of the parts, in its block, with its slices. -/
structure Rwg (w : World) (B g n c : Nat) (Ts : List Tr) (cells : List Value) : Prop where
  row : w.ownsRow B 22 1 (.slice (some ⟨g, 0, none⟩) n c) n cells
  len : Ts.length = n
  elem : ∀ (i : Nat) (t : Tr), Ts[i]? = some t → ∃ u, cells[i]? = some u ∧ SliceN w (fun k => k < w.heap.size ∧ k ≠ g) u (nodes t)
theorem Rwg.of {w : World} {B : Nat} {S : Nat → Prop} {g n c : Nat} {Ts : List Tr} {cells : List Value} (h : Rws w B S (.slice (some ⟨g, 0, none⟩) n c) Ts cells) (hn : Ts.length = n) (hS : ∀ k, S k → k < w.heap.size) : Rwg w B g n c Ts cells := by
  refine ⟨by have := h.row; rwa [hn] at this, hn, fun i t ht => ?_⟩
  obtain ⟨u, hu, hU⟩ := h.elem i t ht
  exact ⟨u, hu, hU.frame fun k hk => ⟨⟨hS k hk.1, fun e => hk.2 (by rw [e]; rfl)⟩, rfl⟩⟩
theorem Rwg.rws {w : World} {B g n c : Nat} {Ts : List Tr} {cells : List Value} (h : Rwg w B g n c Ts cells) : Rws w B (fun k => k < w.heap.size) (.slice (some ⟨g, 0, none⟩) n c) Ts cells := by
  refine ⟨by rw [h.len]; exact h.row, fun i t ht => ?_⟩
  obtain ⟨u, hu, hU⟩ := h.elem i t ht
  exact ⟨u, hu, hU.frame fun k hk => ⟨⟨hk.1, fun e => hk.2 (by injection e)⟩, rfl⟩⟩
theorem Rwg.base {w : World} {B g n c : Nat} {Ts : List Tr} {cells : List Value} (h : Rwg w B g n c Ts cells) : B ≤ g := own_base h.row g rfl
theorem Rwg.lt {w : World} {B g n c : Nat} {Ts : List Tr} {cells : List Value} (h : Rwg w B g n c Ts cells) : g < w.heap.size := own_lt h.row g rfl
theorem Rwg.frame {w w' : World} {B g n c : Nat} {Ts : List Tr} {cells : List Value} (h : Rwg w B g n c Ts cells) (hz : w.heap.size ≤ w'.heap.size) (hs : ∀ k, k < w.heap.size → w'.heap[k]? = w.heap[k]?) : Rwg w' B g n c Ts cells := by
  refine ⟨own_frame h.row fun k hk => hs k (own_lt h.row k hk), h.len, fun i t ht => ?_⟩
  obtain ⟨u, hu, hU⟩ := h.elem i t ht
  exact ⟨u, hu, hU.frame fun k hk => ⟨⟨Nat.lt_of_lt_of_le hk.1 hz, hk.2⟩, hs k hk.1⟩⟩
theorem Rwg.below {w w' : World} {B g n c : Nat} {Ts : List Tr} {cells : List Value} (h : Rwg w B g n c Ts cells) (hb : Below w.heap.size w w') : Rwg w' B g n c Ts cells := h.frame hb.size fun k hk => hb.block k hk
/-- A cell of the row: its slice. -/
theorem Rwg.cell {w : World} {B g n c : Nat} {Ts : List Tr} {cells : List Value} (h : Rwg w B g n c Ts cells) {i : Nat} {t : Tr} (ht : Ts[i]? = some t) : ∃ u, cells[i]? = some u ∧ w.cell? ⟨g, i, none⟩ = some u ∧ w.frozen? ⟨g, i, none⟩ = false ∧ SliceN w (fun k => k < w.heap.size ∧ k ≠ g) u (nodes t) := by
  obtain ⟨u, hu, hU⟩ := h.elem i t ht
  have hi : i < n := by
    have := (List.getElem?_eq_some_iff.1 ht).1
    have := h.len
    omega
  obtain ⟨g', c', u', he, hu', hcu⟩ := own_cell (own_lower h.row (Nat.zero_le _)) i hi
  obtain rfl : g = g' := by injection he with h1 h2 h3; injection h1 with h1; injection h1
  rw [hu] at hu'
  injection hu' with hu'
  subst hu'
  obtain ⟨cur, hcur⟩ := own_typed h.row g rfl
  refine ⟨u, hu, hcu, ?_, hU⟩
  simp [World.frozen?, hcur]
theorem Rwg.put {w : World} {B g n c : Nat} {Ts : List Tr} {cells : List Value} (h : Rwg w B g n c Ts cells) (i : Nat) {u : Value} {t : Tr} (hu : SliceN w (fun k => k < w.heap.size ∧ k ≠ g) u (nodes t)) (ht : i < Ts.length) : Rwg (w.setCell ⟨g, i, none⟩ u) B g n c (Ts.set i t) (cells.set i u) := by
  have hs := h.row.stored i u
  have keep : ∀ {u' : Value} {L : List V4}, SliceN w (fun k => k < w.heap.size ∧ k ≠ g) u' L → SliceN (w.setCell ⟨g, i, none⟩ u) (fun k => k < (w.setCell ⟨g, i, none⟩ u).heap.size ∧ k ≠ g) u' L := fun hU => hU.frame fun k hk => ⟨⟨by rw [World.size_setCell]; exact hk.1, hk.2⟩, Below.heap_setCell w _ u k hk.2⟩
  refine ⟨hs.1, by rw [List.length_set]; exact h.len, fun j t' hj => ?_⟩
  have hcl : cells.length = n := by have := h.row.1; omega
  by_cases hij : i = j
  · subst hij
    rw [List.getElem?_set_self ht] at hj
    injection hj with hj
    subst hj
    exact ⟨u, List.getElem?_set_self (by rw [hcl, ← h.len]; exact ht), keep hu⟩
  · rw [List.getElem?_set_ne hij] at hj
    obtain ⟨u', hu', hU'⟩ := h.elem j t' hj
    exact ⟨u', by rw [List.getElem?_set_ne hij]; exact hu', keep hU'⟩
end Go.Proofs.YtdcfbgpcpjjjaaaGreat.Co
