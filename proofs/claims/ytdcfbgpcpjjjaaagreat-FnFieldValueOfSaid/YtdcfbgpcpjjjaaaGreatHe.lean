/-
  spec.Sorted, walked.
-/
import Derived.Test.YtdcfbgpcpjjjaaaGreatHc
namespace Go.Proofs.YtdcfbgpcpjjjaaaGreat.Co
open Go.RowKit Go.Proofs.YtdcfbgpcpjjjaaaGreatW.PrintWords Go.Proofs.YtdcfbgpcpjjjaaaGreatW.PrintLast Go.Proofs.YtdcfbgpcpjjjaaaGreatW.PrintMore
open Go.Proofs.YtdcfbgpcpjjjaaaGreat.Fl Go.Proofs.YtdcfbgpcpjjjaaaGreat.Dr Go.Proofs.YtdcfbgpcpjjjaaaGreat.PFnFieldValueOf
set_option linter.unusedVariables false
set_option linter.unusedSimpArgs false
attribute [local go_sem] run_store_float
/-- What Sorted comes to. -/
def StPost (t : Tr) (w : World) (e : Ending) (w' : World) : Prop :=
  ∃ r g, e = .returned r ∧ SortedOf t g ∧ SliceN w' (New w.heap.size w') r (nodes g) ∧ Below w.heap.size w w'
def SortAt (t : Tr) : Prop := ∀ (v : Value) (w : World), SliceN w (fun k => k < w.heap.size) v (nodes t) → (nodes t).length ≤ 1000 → Calls Tryz.prog 18 #[v] w fun e w' => StPost t w e w'
/-- What the loop has done so far: P, the sorted parts. -/
structure Pre (k : Int) (ks : List Tr) (i : Nat) (P qs : List Tr) : Prop where
  le : i ≤ ks.length
  len : qs.length = i
  srt : ∀ (j : Nat) (t t' : Tr), ks[j]? = some t → qs[j]? = some t' → SortedOf t t'
  perm : P.Perm qs
  ord : k = 8 → P.Pairwise tle
  raw : k ≠ 8 → P = qs
def ORel (w : World) (k : Int) (ks : List Tr) (g n c : Nat) (v4 : Value) (wr : World) : Prop :=
  ∃ (i : Nat) (P qs : List Tr) (cells : List Value), v4 = .int .i64 i ∧ Pre k ks i P qs ∧ Rwg wr w.heap.size g n c (P ++ ks.drop i) cells ∧ Below w.heap.size w wr
def IRel (w : World) (k : Int) (ks : List Tr) (g n c i : Nat) (qs : List Tr) (x : Tr) (v5 : Value) (wr : World) : Prop :=
  ∃ (A C : List Tr) (cells : List Value), v5 = .int .i64 A.length ∧ (k = 8 → Ins A C x) ∧ (k ≠ 8 → A = qs ∧ C = []) ∧ (A ++ C).Perm qs ∧ Rwg wr w.heap.size g n c (A ++ x :: C ++ ks.drop (i + 1)) cells ∧ Below w.heap.size w wr
theorem Pre.next {k : Int} {ks P qs A C : List Tr} {i : Nat} {x t : Tr} (h : Pre k ks i P qs) (ht : ks[i]? = some t) (hx : SortedOf t x) (hp : (A ++ C).Perm qs) (h8 : k = 8 → (A ++ x :: C).Pairwise tle) (hn : k ≠ 8 → A = qs ∧ C = []) : Pre k ks (i + 1) (A ++ x :: C) (qs ++ [x]) := by
  refine ⟨by have := (List.getElem?_eq_some_iff.1 ht).1; omega, by simp [h.len], fun j a b ha hb => ?_, ins_perm hp, h8, fun hk => ?_⟩
  · by_cases hj : j < i
    · rw [List.getElem?_append_left (by rw [h.len]; exact hj)] at hb
      exact h.srt j a b ha hb
    · have : j = i := by
        have := (List.getElem?_eq_some_iff.1 hb).1
        simp [h.len] at this
        omega
      subst this
      rw [List.getElem?_append_right (by rw [h.len]; exact Nat.le_refl _), h.len, Nat.sub_self] at hb
      rw [ht] at ha
      simp at hb
      injection ha with ha
      subst ha hb
      exact hx
  · obtain ⟨rfl, rfl⟩ := hn hk
    rfl
theorem Rwg.swap {w : World} {B g n c kk : Nat} {A' C D : List Tr} {a x : Tr} {cells : List Value} {ua ux : Value} (h : Rwg w B g n c (A' ++ [a] ++ x :: C ++ D) cells) (hkk : kk = A'.length) (hua : SliceN w (fun k => k < w.heap.size ∧ k ≠ g) ua (nodes a)) (hux : SliceN w (fun k => k < w.heap.size ∧ k ≠ g) ux (nodes x)) :
    Rwg ((w.setCell ⟨g, kk + 1, none⟩ ua).setCell ⟨g, kk, none⟩ ux) B g n c (A' ++ x :: (a :: C) ++ D) ((cells.set (kk + 1) ua).set kk ux) := by
  subst hkk
  have e1 : (A' ++ [a] ++ x :: C ++ D).set (A'.length + 1) a = A' ++ a :: (a :: C ++ D) := by
    have := set_mid (A' ++ [a]) (C ++ D) x a
    simp only [List.length_append, List.length_singleton] at this
    rw [show A' ++ [a] ++ x :: C ++ D = A' ++ [a] ++ x :: (C ++ D) by simp, this]
    simp
  have e2 : (A' ++ a :: (a :: C ++ D)).set A'.length x = A' ++ x :: (a :: C) ++ D := by rw [set_mid]; simp
  have h1 := h.put (A'.length + 1) (u := ua) (t := a) hua (by simp)
  rw [e1] at h1
  have h2 := h1.put A'.length (u := ux) (t := x) (hux.frame fun k hk => ⟨⟨by rw [World.size_setCell]; exact hk.1, hk.2⟩, Below.heap_setCell w _ ua k hk.2⟩) (by simp)
  rw [e2] at h2
  exact h2
theorem nil_or_snoc {α : Type} (A : List α) : A = [] ∨ ∃ A' a, A = A' ++ [a] := by
  rcases List.eq_nil_or_concat A with h | ⟨A', a, h⟩
  · exact .inl h
  · exact .inr ⟨A', a, by rw [h, List.concat_eq_append]⟩
theorem st_fin {k : Int} {n0 : Nat} {tx : ByteArray} {ks ps qs : List Tr} {w wr w' : World} {e : Ending} (hpre : Pre k ks ks.length ps qs) (hB : Below w.heap.size w wr)
    (h : ∃ r, e = .returned r ∧ SliceN w' (New wr.heap.size w') r (nodes (.mk k n0 tx ps)) ∧ Below wr.heap.size wr w') : StPost (.mk k n0 tx ks) w e w' := by
  obtain ⟨r, e1, hr, hb⟩ := h
  exact ⟨r, .mk k n0 tx ps, e1, .mk k n0 tx ks qs ps hpre.len hpre.srt hpre.perm hpre.ord hpre.raw, hr.frame fun j hj => ⟨⟨Nat.le_trans hB.size hj.1, hj.2⟩, rfl⟩, below_step hB hb⟩
theorem SortedOf.len {t g : Tr} (h : SortedOf t g) : (nodes g).length = (nodes t).length := by
  induction h with
  | mk k n tx ks qs ps hl hq hp h8 hn ih =>
    simp only [nodes, List.length_cons]
    rw [nodesL_perm hp, nodesL_len hl ih]
theorem Pre.nlen {k : Int} {ks P qs : List Tr} {i : Nat} (h : Pre k ks i P qs) : (nodesL P).length = (nodesL (ks.take i)).length := by
  rw [nodesL_perm h.perm]
  refine nodesL_len (by rw [h.len, List.length_take]; have := h.le; omega) fun j t t' ht ht' => (h.srt j t t' ?_ ht').len
  rw [List.getElem?_take] at ht
  split at ht
  · exact ht
  · cases ht
set_option maxHeartbeats 4000000 in
set_option maxRecDepth 100000 in
theorem sort_nil (k : Int) (n0 : Nat) (tx : ByteArray) : SortAt (.mk k n0 tx []) := by
  intro v w hv hl
  obtain ⟨ad, c, rfl, hc, hs, p0, p1, p2, p3⟩ := hv.head
  obtain ⟨A0, c0, e0, -, hC, -⟩ := hv
  obtain ⟨rfl, rfl⟩ : some ad = A0 ∧ c = c0 := by injection e0 with h1 h2 h3; exact ⟨h1, h3⟩
  have HP := Aside0.mk (parts14_any k n0 tx [] _ rfl (some ad) c w hC hc hl)
  have hpos := nodes_pos (.mk k n0 tx [])
  obtain ⟨len, hlen⟩ : ∃ len, len = (nodes (.mk k n0 tx [])).length := ⟨_, rfl⟩
  have HLEN : Aside0 (len = 1 + (nodesL []).length) := ⟨by rw [hlen]; simp [nodes]; omega⟩
  have HPP : Aside0 (∀ W, Below w.heap.size w W → W.cell? ad = some (.int .i64 k)) := ⟨fun W hb => (cell_same (hb.block ad.block hs)).trans p0⟩
  have HP1 : Aside0 (∀ W, Below w.heap.size w W → W.cell? ⟨ad.block, ad.off + 1, none⟩ = some (.float .f64 n0)) := ⟨fun W hb => (cell_same (a := ⟨ad.block, ad.off + 1, none⟩) (hb.block ad.block hs)).trans p1⟩
  have HP2 : Aside0 (∀ W, Below w.heap.size w W → W.cell? ⟨ad.block, ad.off + 2, none⟩ = some (.string tx)) := ⟨fun W hb => (cell_same (a := ⟨ad.block, ad.off + 2, none⟩) (hb.block ad.block hs)).trans p2⟩
  have HP3 : Aside0 (∀ W, Below w.heap.size w W → W.cell? ⟨ad.block, ad.off + 3, none⟩ = some (.int .i64 len)) := ⟨fun W hb => (cell_same (a := ⟨ad.block, ad.off + 3, none⟩) (hb.block ad.block hs)).trans (by rw [hlen]; exact p3)⟩
  rw [← hlen] at HP hpos hl p3 hc ⊢
  clear hC e0 hlen
  clear p0 p1 p2 p3
  go_enter Tryz.func18, Tryz.ntmps18
  go_wp2_with fail
  refine HP.out.mono ?_
  rintro e w1 ⟨pv, rfl, ⟨cells, hR⟩, hb⟩
  obtain ⟨As, cs, rfl⟩ : ∃ As cs, pv = .slice As 0 cs := own_slice hR.row
  have HB := Aside0.mk hb
  have p0 := HPP.out _ hb
  have p1 := HP1.out _ hb
  have p2 := HP2.out _ hb
  have p3 := HP3.out _ hb
  have HM := Aside0.mk (made28_any ⟨k, n0, tx, (len : Int)⟩ (.slice As 0 cs) w.heap.size (fun j => j < w1.heap.size) [] cells w1 (hR.frame (fun j hj => ⟨Nat.lt_of_lt_of_le hj hb.size, rfl⟩) fun _ _ => rfl) (fun _ h => h) (by simp [nodesL]))
  clear hR hb HP
  go_wp2_with fail
  go_loopw [4] (fun v4 wr => v4 = .int .i64 0 ∧ wr = w1) (fun _ _ => 0)
  case atStart => exact ⟨rfl, rfl⟩
  case round =>
    obtain ⟨rfl, rfl⟩ := hrel
    go_wp2_with fail
    refine HM.out.mono ?_
    intro e w2 hm
    have HM2 := Aside0.mk hm
    obtain ⟨r, rfl, -, -⟩ := hm
    go_wp2_with fail
    go_ret
    exact st_fin (qs := []) ⟨Nat.le_refl _, rfl, fun j t t' h => by simp at h, List.Perm.refl _, fun _ => List.Pairwise.nil, fun _ => rfl⟩ HB.out HM2.out
set_option maxHeartbeats 4000000 in
set_option maxRecDepth 100000 in
theorem sort_cons (k : Int) (n0 : Nat) (tx : ByteArray) (ks : List Tr) (hks : 0 < ks.length) (ih : ∀ t, t ∈ ks → SortAt t) : SortAt (.mk k n0 tx ks) := by
  intro v w hv hl
  have HIH := Aside0.mk ih
  clear ih
  obtain ⟨ad, c, rfl, hc, hs, p0, p1, p2, p3⟩ := hv.head
  obtain ⟨A0, c0, e0, -, hC, -⟩ := hv
  obtain ⟨rfl, rfl⟩ : some ad = A0 ∧ c = c0 := by injection e0 with h1 h2 h3; exact ⟨h1, h3⟩
  have HP := Aside0.mk (parts14_any k n0 tx ks _ rfl (some ad) c w hC hc hl)
  have hpos := nodes_pos (.mk k n0 tx ks)
  obtain ⟨len, hlen⟩ : ∃ len, len = (nodes (.mk k n0 tx ks)).length := ⟨_, rfl⟩
  have HLEN : Aside0 (len = 1 + (nodesL ks).length) := ⟨by rw [hlen]; simp [nodes]; omega⟩
  have HPP : Aside0 (∀ W, Below w.heap.size w W → W.cell? ad = some (.int .i64 k)) := ⟨fun W hb => (cell_same (hb.block ad.block hs)).trans p0⟩
  have HP1 : Aside0 (∀ W, Below w.heap.size w W → W.cell? ⟨ad.block, ad.off + 1, none⟩ = some (.float .f64 n0)) := ⟨fun W hb => (cell_same (a := ⟨ad.block, ad.off + 1, none⟩) (hb.block ad.block hs)).trans p1⟩
  have HP2 : Aside0 (∀ W, Below w.heap.size w W → W.cell? ⟨ad.block, ad.off + 2, none⟩ = some (.string tx)) := ⟨fun W hb => (cell_same (a := ⟨ad.block, ad.off + 2, none⟩) (hb.block ad.block hs)).trans p2⟩
  have HP3 : Aside0 (∀ W, Below w.heap.size w W → W.cell? ⟨ad.block, ad.off + 3, none⟩ = some (.int .i64 len)) := ⟨fun W hb => (cell_same (a := ⟨ad.block, ad.off + 3, none⟩) (hb.block ad.block hs)).trans (by rw [hlen]; exact p3)⟩
  rw [← hlen] at HP hpos hl p3 hc ⊢
  clear hC e0 hlen
  clear p0 p1 p2 p3
  go_enter Tryz.func18, Tryz.ntmps18
  go_wp2_with fail
  refine HP.out.mono ?_
  rintro e w1 ⟨pv, rfl, ⟨cells, hR⟩, hb⟩
  obtain ⟨g, cs, u0, rfl, -, -⟩ := own_cell (own_lower hR.row (Nat.zero_le _)) 0 hks
  have HB := Aside0.mk hb
  obtain ⟨n, hn⟩ : ∃ n, n = ks.length := ⟨_, rfl⟩
  have HKN : Aside0 (n ≤ 1000) := ⟨by
    have := nodesL_ge ks ks.length (Nat.le_refl _)
    rw [List.take_length] at this
    have h2 := HLEN.out
    omega⟩
  have HO : Aside0 (ORel w k ks g n cs (.int .i64 0) w1) := ⟨⟨0, [], [], cells, rfl, ⟨Nat.zero_le _, rfl, fun j t t' h h' => by simp at h', List.Perm.refl _, fun _ => List.Pairwise.nil, fun _ => rfl⟩, by
    rw [hn]
    exact Rwg.of hR rfl fun j hj => Nat.lt_of_lt_of_le hj hb.size, hb⟩⟩
  rw [← hn]
  have HN := Aside0.mk hn
  clear hR hb HP hn HB
  go_wp2_with fail
  go_loopw [4, 5] (fun v4 v5 wr => ORel w k ks g n cs v4 wr) (fun v4 _ _ => n - (intOf v4).toNat)
  case atStart => exact HO.out
  case round =>
    obtain ⟨i, P, qs, cells, rfl, hpre, hrw, hb⟩ := hrel
    have hPi : P.length = i := by rw [hpre.perm.length_eq, hpre.len]
    have hile : i ≤ n := by rw [HN.out]; exact hpre.le
    have HPRE := Aside0.mk hpre
    have HRW := Aside0.mk hrw
    have HB := Aside0.mk hb
    clear hpre hrw hb
    by_cases hlt : i < n
    · have hki : (i : Int) < (n : Int) := by omega
      have hkl : i < ks.length := by rw [← HN.out]; exact hlt
      have hdrop : ks.drop i = ks[i] :: ks.drop (i + 1) := List.drop_eq_getElem_cons hkl
      have hget : (P ++ ks.drop i)[i]? = some ks[i] := by rw [List.getElem?_append_right (by omega), hPi, Nat.sub_self, hdrop]; rfl
      obtain ⟨u, hu, hcu, hfu, hU⟩ := HRW.out.cell hget
      have HU := Aside0.mk hU
      have HC := Aside0.mk (HIH.out ks[i] (List.getElem_mem hkl) u wr (hU.frame fun j hj => ⟨hj.1, rfl⟩) (by
        have h1 := nodesL_succ ks i hkl
        have h2 := congrArg (fun l => (nodesL l).length) (List.take_append_drop (i + 1) ks)
        simp only [nodesL_append, List.length_append] at h2
        have h3 := HLEN.out
        omega))
      have hw1 : IntKind.i64.wrap ((i : Int) + 1) = ((i + 1 : Nat) : Int) := by have := HKN.out; rw [i64_w, w64 (by omega) (by omega)]; omega
      clear hU hget hdrop hu
      go_wp2_with fail
      refine HC.out.mono ?_
      rintro e w2 ⟨r, x, rfl, hx, hr, hb2⟩
      have hrw2 := HRW.out.below hb2
      have hget : (P ++ ks.drop i)[i]? = some ks[i] := by rw [List.getElem?_append_right (by omega), hPi, Nat.sub_self, List.drop_eq_getElem_cons hkl]; rfl
      obtain ⟨u2, -, hcu2, hfu2, -⟩ := hrw2.cell hget
      have HI : Aside0 (IRel w k ks g n cs i qs x (.int .i64 i) (w2.setCell ⟨g, i, none⟩ r)) := ⟨by
        refine ⟨P, [], cells.set i r, by rw [hPi], fun h8 => Ins.start (HPRE.out.ord h8), fun h8 => ⟨HPRE.out.raw h8, rfl⟩, by rw [List.append_nil]; exact HPRE.out.perm, ?_, below_set (below_step HB.out hb2) HRW.out.base⟩
        have h1 := hrw2.put i (u := r) (t := x) (hr.frame fun j hj => ⟨⟨hj.2, fun e => by have := HRW.out.lt; have := hj.1; omega⟩, rfl⟩) (by rw [List.length_append, List.length_drop, hPi]; omega)
        have h2 : (P ++ ks.drop i).set i x = P ++ x :: [] ++ ks.drop (i + 1) := by
          have := set_mid P (ks.drop (i + 1)) ks[i] x
          rw [hPi] at this
          rw [List.drop_eq_getElem_cons hkl, this]
          simp
        rw [h2] at h1
        exact h1⟩
      have HX := Aside0.mk hx
      have hr0 := hr
      clear hrw2 hget hr hb2 hx HC HU HO HRW HB
      obtain ⟨ad3, c3, rfl, -⟩ := hr0.head
      go_wp2_with fail
      generalize w2.setCell ⟨g, i, none⟩ (Value.slice (some ad3) (nodes x).length c3) = W3 at *
      go_loopw [5] (fun v5 wr => IRel w k ks g n cs i qs x v5 wr) (fun v5 _ => (intOf v5).toNat)
      case atStart => exact HI.out
      case round =>
        obtain ⟨A, C, cells, rfl, hI8, hIn, hperm, hrw, hb⟩ := hrel
        have hAl : A.length ≤ i := by have := hperm.length_eq; rw [List.length_append, HPRE.out.len] at this; omega
        have hn1000 := HKN.out
        have hw1 : IntKind.i64.wrap ((i : Int) + 1) = ((i + 1 : Nat) : Int) := by rw [i64_w, w64 (by omega) (by omega)]; omega
        have p0 := HPP.out _ hb
        have HRW := Aside0.mk hrw
        have HB := Aside0.mk hb
        have HI8 := Aside0.mk hI8
        have HIN := Aside0.mk hIn
        have HPM := Aside0.mk hperm
        have HDone : Aside0 (∀ W : World, W.heap = wr.heap → Below w.heap.size w W → (k = 8 → (A ++ x :: C).Pairwise tle) → ORel w k ks g n cs (.int .i64 ((i : Int) + 1)) W) := ⟨fun W hW hbW h8 => ⟨i + 1, A ++ x :: C, qs ++ [x], cells, congrArg (Value.int .i64) (by omega), HPRE.out.next (List.getElem?_eq_getElem hkl) HX.out HPM.out h8 HIN.out, HRW.out.frame (by rw [hW]; exact Nat.le_refl _) (fun j _ => by rw [hW]), hbW⟩⟩
        clear hI8 hIn hperm hrw hb
        rcases nil_or_snoc A with rfl | ⟨A', a, rfl⟩
        · have hk0 : ¬ ((0 : Int) < (([] : List Tr).length : Int)) := by simp
          have hk0' : decide ((0 : Int) < (([] : List Tr).length : Int)) = false := by simp
          go_wp2_with fail
          go_region
          go_wp2_with fail
          exact ⟨HDone.out _ rfl (below_drew HB.out) fun h8 => (HI8.out h8).stop (.inl rfl), by simp [intOf]; omega⟩
        · have hAkk : (A' ++ [a]).length = A'.length + 1 := by simp
          obtain ⟨kk, hkk⟩ : ∃ kk, kk = A'.length := ⟨_, rfl⟩
          rw [hAkk, ← hkk] at hAl ⊢
          have HKK := Aside0.mk hkk
          have hk0 : (0 : Int) < ((kk + 1 : Nat) : Int) := by omega
          have hk0' : decide ((0 : Int) < ((kk + 1 : Nat) : Int)) = true := decide_eq_true hk0
          by_cases hk8 : k = 8
          · subst hk8
            have hga : (A' ++ [a] ++ x :: C ++ ks.drop (i + 1))[kk]? = some a := by rw [hkk]; simp
            have hgx : (A' ++ [a] ++ x :: C ++ ks.drop (i + 1))[kk + 1]? = some x := by rw [hkk]; simp
            obtain ⟨ua, -, hca, hfa, hUa⟩ := HRW.out.cell hga
            obtain ⟨ux, -, hcx, hfx, hUx⟩ := HRW.out.cell hgx
            have HUA := Aside0.mk hUa
            have HUX := Aside0.mk hUx
            obtain ⟨ada, ca, rfl, -, -, -, -, qa, -⟩ := hUa.head
            obtain ⟨adx, cx, rfl, -, -, -, -, qx, -⟩ := hUx.head
            have hna := nodes_pos a
            have hnx := nodes_pos x
            generalize (nodes a).length = na at *
            generalize (nodes x).length = nx at *
            have hw2 : IntKind.i64.wrap (((kk + 1 : Nat) : Int) - 1) = (kk : Int) := by rw [i64_w, w64 (by omega) (by omega)]; omega
            clear hUa hUx hga hgx hkk hAkk
            cases hq : Op.bytesLess x.text.toList a.text.toList with
            | false =>
              go_wp2_with fail
              go_region
              go_wp2_with fail
              exact ⟨HDone.out _ rfl (below_drew HB.out) fun h8 => (HI8.out h8).stop (.inr ⟨A', a, rfl, hq⟩), by simp [intOf]; omega⟩
            | true =>
              go_wp2_with fail
              go_region
              go_wp2_with fail
              go_region
              go_wp2_with fail
              refine ⟨⟨A', a :: C, _, by rw [HKK.out], fun h8 => (HI8.out (by trivial)).step hq, fun h8 => absurd rfl h8, by have := HPM.out; rwa [List.append_assoc] at this, (HRW.out.swap HKK.out HUA.out HUX.out).frame (Nat.le_refl _) fun _ _ => rfl, below_drew (below_drew (below_set (below_set HB.out HRW.out.base) HRW.out.base))⟩, by simp [intOf]⟩
          · have hk8' : (k == 8) = false := beq_eq_false_iff_ne.2 hk8
            go_wp2_with fail
            go_region
            go_wp2_with fail
            exact ⟨HDone.out _ rfl (below_drew HB.out) fun h8 => absurd h8 hk8, by simp [intOf]; omega⟩
    · obtain rfl : i = n := by omega
      have hki : ¬ ((i : Int) < (i : Int)) := by omega
      have p0 := HPP.out _ HB.out
      have p1 := HP1.out _ HB.out
      have p2 := HP2.out _ HB.out
      have p3 := HP3.out _ HB.out
      have HPR : Aside0 (Pre k ks ks.length P qs) := ⟨by rw [← HN.out]; exact HPRE.out⟩
      have hPN : P.length = i := hPi
      have HM := Aside0.mk (made28_any ⟨k, n0, tx, (len : Int)⟩ (.slice (some ⟨g, 0, none⟩) i cs) w.heap.size (fun j => j < wr.heap.size) P cells wr (by
        have h1 := HRW.out
        rw [List.drop_eq_nil_of_le (by rw [HN.out]; exact Nat.le_refl _), List.append_nil] at h1
        exact h1.rws) (fun _ h => h) (by
        have h1 := HPR.out.nlen
        rw [List.take_length] at h1
        have h2 := HLEN.out
        omega))
      clear HO
      go_wp2_with fail
      refine HM.out.mono ?_
      intro e w2 hm
      have HM2 := Aside0.mk hm
      obtain ⟨r, rfl, -, -⟩ := hm
      go_wp2_with fail
      go_ret
      exact st_fin HPR.out HB.out HM2.out
set_option maxHeartbeats 4000000 in
/-- Sorted, for every tree. -/
theorem sort_all : ∀ (N : Nat) (t : Tr), (nodes t).length < N → SortAt t := by
  intro N
  induction N with
  | zero => intro t h; omega
  | succ N ih =>
    intro t ht
    obtain ⟨k, n, tx, ks⟩ := t
    by_cases h0 : 0 < ks.length
    · refine sort_cons k n tx ks h0 fun t hm => ih t ?_
      obtain ⟨i, hi, rfl⟩ := List.getElem_of_mem hm
      have h1 := nodesL_succ ks i hi
      have h2 := congrArg (fun l => (nodesL l).length) (List.take_append_drop (i + 1) ks)
      simp only [nodesL_append, List.length_append] at h2
      simp [nodes] at ht
      omega
    · obtain rfl := List.eq_nil_of_length_eq_zero (by omega : ks.length = 0)
      exact sort_nil k n tx
theorem sort18_any (t : Tr) : SortAt t := sort_all _ t (Nat.lt_succ_self _)
end Go.Proofs.YtdcfbgpcpjjjaaaGreat.Co
