/-
  Two values that are the same, sorted, have the same nodes. Plain.
-/
import Derived.Test.YtdcfbgpcpjjjaaaGreatHe
namespace Go.Proofs.YtdcfbgpcpjjjaaaGreat.Co
open Ieee Go Go.RowKit Go.Proofs.YtdcfbgpcpjjjaaaGreat.Fl Go.Proofs.YtdcfbgpcpjjjaaaGreat.Dr
set_option linter.unusedVariables false
set_option linter.unusedSimpArgs false
theorem cmp_swap {a b : Int} (h : compare a b = .eq) : compare b a = .eq := by
  have e : a = b := by
    rw [compare, instOrdInt] at h
    change compareOfLessAndEq _ _ = _ at h
    unfold compareOfLessAndEq at h
    split at h
    · cases h
    · split at h
      · assumption
      · cases h
  subst e
  exact h
theorem order_symm {a b : Datum} (h : a.order b = some .eq) : b.order a = some .eq := by
  cases a with
  | nan s t => cases b <;> simp [Datum.order] at h
  | infinity s =>
    cases b with
    | nan s t => simp [Datum.order] at h
    | infinity s' => cases s <;> cases s' <;> first | rfl | (exact absurd h (by decide))
    | number s' m i => cases s <;> cases s' <;> exact absurd h (by simp [Datum.order])
  | number s m i =>
    cases b with
    | nan s t => simp [Datum.order] at h
    | infinity s' => cases s <;> cases s' <;> exact absurd h (by simp [Datum.order])
    | number s' m' i' =>
      simp only [Datum.order, Option.some.injEq] at h ⊢
      rw [Int.min_comm]
      exact cmp_swap h
theorem zero_eq {n : Nat} (h : numZero n = true) : D.order 0 n = some .eq := by
  unfold numZero at h
  have h : D.order n 0 = some .eq := by simpa using h
  exact order_symm h
theorem fin_eq {n : Nat} (h : finN n = true) : D.order n n = some .eq := by
  unfold finN nanN at h
  simp at h
  exact h.1
theorem write_zero_number (s : Bool) : D.read (D.write (.number s 0 0)) = .number s 0 (-1074) := by cases s <;> decide
theorem int_eq {n : Nat} {k : Int} (h : intN n = true) (hk : floatToIntVal .f64 n .i64 = some k) : D.order (FloatKind.f64.nearest k) n = some .eq := by
  obtain ⟨k', hk', hb⟩ := intN_num h
  rw [hk] at hk'
  injection hk' with hk'
  subst hk'
  rw [nearest_int k hb]
  unfold intN wholeN cutW at h
  simp only [Bool.and_eq_true] at h
  have h1 : D.order n (D.write ((D.read n).integral .zero)) = some .eq := by simpa using h.1
  unfold Format.order at h1 ⊢
  refine order_symm ?_
  cases hd : D.read n with
  | nan s t => rw [hd] at h1; simp [Datum.order] at h1
  | infinity s =>
    unfold floatToIntVal at hk
    have e : (FloatKind.f64.decode n).toInt .zero = none := by
      show (D.read n).toInt .zero = _
      rw [hd]; rfl
    rw [e] at hk
    cases hk
  | number s m i =>
    have e : (FloatKind.f64.decode n).toInt .zero = some (signed s (Fl.whole m i) 0) := by
      show (D.read n).toInt .zero = _
      rw [hd, toInt_number]
    have ek : k = signed s (Fl.whole m i) 0 := by
      unfold floatToIntVal at hk
      rw [e] at hk
      simp only at hk
      split at hk
      · injection hk with hk; exact hk.symm
      · cases hk
    rw [hd, integral_number] at h1
    rw [signed_zero] at ek
    by_cases hq : Fl.whole m i = 0
    · rw [hq, write_zero_number] at h1
      have : k = 0 := by rw [ek, hq]; cases s <;> rfl
      subst this
      rw [show wordOf 0 = 0 from rfl, show D.read 0 = .number false 0 (-1074) by decide]
      simp only [Datum.order, Option.some.injEq, signed] at h1 ⊢
      cases s <;> simpa using h1
    · have hqb : Fl.whole m i < 2 ^ 53 := by rw [ek] at hb; cases s <;> simp at hb <;> omega
      have hne := nearest_exact s 0 (by omega : 0 < Fl.whole m i) hqb (by omega)
      have hw : D.write (.number s (Fl.whole m i) 0) = D.nearest s (Fl.whole m i) 0 := rfl
      rw [show Fl.whole m i * 2 ^ 0 = Fl.whole m i by omega, show -((0 : Nat) : Int) = 0 by rfl] at hne
      rw [hw, hne] at h1
      have : wordOf k = D.word s (rung (Fl.whole m i)) := by
        unfold wordOf
        cases s
        · have e2 : k = (Fl.whole m i : Int) := by rw [ek]; rfl
          rw [e2, if_neg (by omega), Int.natAbs_natCast]
          congr 1
        · have e2 : k = -(Fl.whole m i : Int) := by rw [ek]; rfl
          rw [e2, if_neg (by omega), Int.natAbs_neg, Int.natAbs_natCast]
          congr 1
          rw [decide_eq_true_eq]; omega
      rw [this]
      exact h1
/-- Two nodes that Go's == takes for the same. -/
structure Sm (x y : V4) : Prop where
  kind : x.kind = y.kind
  num : D.order x.num y.num = some .eq
  text : x.text = y.text
  size : x.size = y.size
inductive All2 : List V4 → List V4 → Prop
  | nil : All2 [] []
  | cons {x y : V4} {a b : List V4} (h : Sm x y) (hs : All2 a b) : All2 (x :: a) (y :: b)
theorem All2.append {a b c d : List V4} (h : All2 a b) (h' : All2 c d) : All2 (a ++ c) (b ++ d) := by
  induction h with
  | nil => exact h'
  | cons h hs ih => exact .cons h ih
theorem All2.length {a b : List V4} (h : All2 a b) : a.length = b.length := by
  induction h with
  | nil => rfl
  | cons h hs ih => simp [ih]
theorem All2.get {a b : List V4} (h : All2 a b) : ∀ (i : Nat) (x y : V4), a[i]? = some x → b[i]? = some y → Sm x y := by
  induction h with
  | nil => intro i x y hx; simp at hx
  | cons h hs ih =>
    intro i x y hx hy
    cases i with
    | zero => simp at hx hy; subst hx hy; exact h
    | succ i => exact ih i x y (by simpa using hx) (by simpa using hy)
theorem all2_trees : ∀ {a b : List Tr}, a.length = b.length → (∀ (i : Nat) (x y : Tr), a[i]? = some x → b[i]? = some y → All2 (nodes x) (nodes y)) → All2 (nodesL a) (nodesL b)
  | [], [], _, _ => by simp only [nodesL]; exact .nil
  | [], _ :: _, h, _ => by simp at h
  | _ :: _, [], h, _ => by simp at h
  | x :: a, y :: b, h, hh => by
    simp only [nodesL]
    exact (hh 0 x y rfl rfl).append (all2_trees (by simpa using h) fun i u v hu hv => hh (i + 1) u v (by simpa using hu) (by simpa using hv))
theorem all2_node {k : Int} {n n' : Nat} {tx : ByteArray} {a b : List Tr} (hn : D.order n' n = some .eq) (h : All2 (nodesL a) (nodesL b)) : All2 (nodes (.mk k n' tx a)) (nodes (.mk k n tx b)) := by
  simp only [nodes]
  exact .cons ⟨rfl, hn, rfl, by simp [h.length]⟩ h
theorem SortedOf.form {k : Int} {n : Nat} {tx : ByteArray} {ks : List Tr} {g : Tr} (h : SortedOf (.mk k n tx ks) g) : ∃ qs ps, g = .mk k n tx ps ∧ qs.length = ks.length ∧ (∀ (i : Nat) (t t' : Tr), ks[i]? = some t → qs[i]? = some t' → SortedOf t t') ∧ ps.Perm qs ∧ (k = 8 → ps.Pairwise tle) ∧ (k ≠ 8 → ps = qs) := by
  cases h with
  | mk _ _ _ _ qs ps hl hq hp h8 hn => exact ⟨qs, ps, rfl, hl, hq, hp, h8, hn⟩
theorem SortedOf.leaf {k : Int} {n : Nat} {tx : ByteArray} {g : Tr} (h : SortedOf (.mk k n tx []) g) : g = .mk k n tx [] := by
  obtain ⟨qs, ps, rfl, hl, -, hp, -, -⟩ := h.form
  obtain rfl := List.eq_nil_of_length_eq_zero hl
  rw [hp.eq_nil]
theorem same_leaf {k : Int} {n n' : Nat} {tx : ByteArray} {g g' : Tr} (hn : D.order n' n = some .eq) (h : SortedOf (.mk k n tx []) g) (h' : SortedOf (.mk k n' tx []) g') : All2 (nodes g') (nodes g) := by
  rw [h.leaf, h'.leaf]
  exact all2_node hn (by simp only [nodesL]; exact .nil)
/-- A member, sorted. -/
theorem SortedOf.member {m : Mb} {q : Tr} (h : SortedOf m.tree q) : ∃ v, q = .mk 9 m.num m.name [v] ∧ SortedOf m.val v := by
  obtain ⟨qs, ps, rfl, hl, hq, hp, -, hn⟩ := h.form
  obtain rfl := hn (by decide)
  match ps, hl with
  | [v], _ => exact ⟨v, rfl, hq 0 m.val v rfl rfl⟩
theorem _root_.Go.Proofs.YtdcfbgpcpjjjaaaGreat.Dr.TR.num {errs : Bool} {t : Tr} (h : TR errs t) : (t.kind = 4 → intN t.num = true) ∧ (t.kind = 5 → finN t.num = true) ∧ (t.kind ≠ 4 → t.kind ≠ 5 → numZero t.num = true) := by
  cases h <;> simp_all [Tr.kind, Tr.num]
theorem _root_.Go.Proofs.YtdcfbgpcpjjjaaaGreat.Dr.TR.kids7 {errs : Bool} {n : Nat} {ks : List Tr} (h : TR errs (.mk 7 n ⟨#[]⟩ ks)) : ∀ s, s ∈ ks → TR errs s := by
  cases h with
  | list _ _ hn hk => exact hk
theorem _root_.Go.Proofs.YtdcfbgpcpjjjaaaGreat.Dr.TR.kids8 {errs : Bool} {n : Nat} {ms : List Mb} (h : TR errs (.mk 8 n ⟨#[]⟩ (ms.map Mb.tree))) : (∀ m, m ∈ ms → numZero m.num = true ∧ m.name.size ≤ 100) ∧ (ms.map Mb.name).Nodup ∧ ∀ m, m ∈ ms → TR errs m.val := by
  generalize he : ms.map Mb.tree = L at h
  cases h with
  | obj _ ms' hn hz hd hk =>
    obtain rfl := trees_inj he
    exact ⟨hz, hd, hk⟩
/-- The names of sorted members. -/
theorem sorted_names {ms : List Mb} {qs ps : List Tr} (hl : qs.length = ms.length) (hq : ∀ (i : Nat) (t t' : Tr), (ms.map Mb.tree)[i]? = some t → qs[i]? = some t' → SortedOf t t') (hp : ps.Perm qs) : (ps.map Tr.text).Perm (ms.map Mb.name) ∧ ∀ a, a ∈ ps → ∃ (i : Nat) (m : Mb) (v : Tr), ms[i]? = some m ∧ a = .mk 9 m.num m.name [v] ∧ SortedOf m.val v := by
  have hq' : ∀ (i : Nat) (m : Mb) (q : Tr), ms[i]? = some m → qs[i]? = some q → ∃ v, q = .mk 9 m.num m.name [v] ∧ SortedOf m.val v := fun i m q hm hqi => (hq i m.tree q (by rw [List.getElem?_map, hm]; rfl) hqi).member
  constructor
  · have : qs.map Tr.text = ms.map Mb.name := by
      refine List.ext_getElem? fun i => ?_
      rw [List.getElem?_map, List.getElem?_map]
      by_cases hi : i < ms.length
      · rw [List.getElem?_eq_getElem hi, List.getElem?_eq_getElem (by omega : i < qs.length)]
        obtain ⟨v, e, -⟩ := hq' i ms[i] qs[i] (List.getElem?_eq_getElem hi) (List.getElem?_eq_getElem (by omega))
        simp [e, Tr.text]
      · rw [List.getElem?_eq_none (by omega), List.getElem?_eq_none (by omega)]; rfl
    rw [← this]
    exact hp.map _
  · intro a ha
    obtain ⟨i, hi, rfl⟩ := List.getElem_of_mem (hp.mem_iff.1 ha)
    obtain ⟨v, e, hv⟩ := hq' i (ms[i]'(by omega)) qs[i] (List.getElem?_eq_getElem (by omega)) (List.getElem?_eq_getElem hi)
    exact ⟨i, _, v, List.getElem?_eq_getElem (by omega), e, hv⟩
theorem text_sorted {ps : List Tr} (h : ps.Pairwise tle) : (ps.map Tr.text).Pairwise fun a b => leB a.data.toList b.data.toList = true := by
  refine List.pairwise_map.2 (h.imp fun {a b} hab => ?_)
  unfold tle at hab
  rw [tlt_eq, decide_eq_false_iff_not] at hab
  simp only [leB, decide_eq_true_eq]
  exact List.not_lt.1 hab
theorem texts_eq {a b : List ByteArray} (hp : a.Perm b) (ha : a.Pairwise fun a b => leB a.data.toList b.data.toList = true) (hb : b.Pairwise fun a b => leB a.data.toList b.data.toList = true) : a = b := by
  refine List.Perm.eq_of_pairwise (le := fun a b => leB a.data.toList b.data.toList = true) (fun x y _ _ h1 h2 => ?_) ha hb hp
  simp only [leB, decide_eq_true_eq] at h1 h2
  exact ByteArray.ext (Array.toList_inj.1 (List.le_antisymm h1 h2))
theorem name_unique {ms : List Mb} (hd : (ms.map Mb.name).Nodup) {m m' : Mb} (h : m ∈ ms) (h' : m' ∈ ms) (e : m.name = m'.name) : m = m' := by
  induction ms with
  | nil => simp at h
  | cons a r ih =>
    rw [List.map_cons, List.nodup_cons] at hd
    rcases List.mem_cons.1 h with rfl | h1 <;> rcases List.mem_cons.1 h' with rfl | h2
    · rfl
    · exact absurd (by rw [e]; exact List.mem_map_of_mem h2) hd.1
    · exact absurd (by rw [← e]; exact List.mem_map_of_mem h1) hd.1
    · exact ih hd.2 h1 h2
/-- What the data and their copy come to, sorted: the same nodes. -/
theorem same_nodes {t t' : Tr} (h : Canon t t') : ∀ (g g' : Tr), TR false t → SortedOf t g → SortedOf t' g' → All2 (nodes g') (nodes g) := by
  induction h with
  | nul n => exact fun g g' ht h h' => same_leaf (zero_eq (ht.num.2.2 (by simp [Tr.kind]) (by simp [Tr.kind]))) h h'
  | tru n => exact fun g g' ht h h' => same_leaf (zero_eq (ht.num.2.2 (by simp [Tr.kind]) (by simp [Tr.kind]))) h h'
  | fls n => exact fun g g' ht h h' => same_leaf (zero_eq (ht.num.2.2 (by simp [Tr.kind]) (by simp [Tr.kind]))) h h'
  | int n k hk => exact fun g g' ht h h' => same_leaf (int_eq (ht.num.1 rfl) hk) h h'
  | flt n => exact fun g g' ht h h' => same_leaf (fin_eq (ht.num.2.1 rfl)) h h'
  | str n t => exact fun g g' ht h h' => same_leaf (zero_eq (ht.num.2.2 (by simp [Tr.kind]) (by simp [Tr.kind]))) h h'
  | list n ks ks' hl hk ih =>
    intro g g' ht h h'
    obtain ⟨qs, ps, rfl, hl1, hq1, -, -, hn1⟩ := h.form
    obtain ⟨qs', ps', rfl, hl2, hq2, -, -, hn2⟩ := h'.form
    obtain rfl := hn1 (by decide)
    obtain rfl := hn2 (by decide)
    refine all2_node (zero_eq (ht.num.2.2 (by simp [Tr.kind]) (by simp [Tr.kind]))) (all2_trees (by omega) fun i x y hx hy => ?_)
    have hi : i < ps'.length := (List.getElem?_eq_some_iff.1 hx).1
    have h1 := List.getElem?_eq_getElem (by omega : i < ks.length)
    have h2 := List.getElem?_eq_getElem (by omega : i < ks'.length)
    exact ih i _ _ h1 h2 y x (ht.kids7 _ (List.getElem_mem _)) (hq1 i _ y h1 hy) (hq2 i _ x h2 hx)
  | obj n ms sms ms' hp hs hl hm hk ih =>
    intro g g' ht h h'
    obtain ⟨qs, ps, rfl, hl1, hq1, hp1, h81, -⟩ := h.form
    obtain ⟨qs', ps', rfl, hl2, hq2, hp2, h82, -⟩ := h'.form
    obtain ⟨hz, hd, hks⟩ := ht.kids8
    rw [List.length_map] at hl1 hl2
    obtain ⟨hn1, hm1⟩ := sorted_names hl1 hq1 hp1
    obtain ⟨hn2, hm2⟩ := sorted_names hl2 hq2 hp2
    have hnn : ms'.map Mb.name = sms.map Mb.name := by
      refine List.ext_getElem? fun i => ?_
      rw [List.getElem?_map, List.getElem?_map]
      by_cases hi : i < sms.length
      · have h1 := List.getElem?_eq_getElem hi
        have h2 := List.getElem?_eq_getElem (by omega : i < ms'.length)
        rw [h1, h2]
        simp [(hm i _ _ h1 h2).2]
      · rw [List.getElem?_eq_none (by omega), List.getElem?_eq_none (by omega)]
    have hte : ps'.map Tr.text = ps.map Tr.text := texts_eq (hn2.trans (by rw [hnn]; exact (hp.map _).trans hn1.symm)) (text_sorted (h82 rfl)) (text_sorted (h81 rfl))
    have hpl : ps'.length = ps.length := by have := congrArg List.length hte; simpa using this
    refine all2_node (zero_eq (ht.num.2.2 (by simp [Tr.kind]) (by simp [Tr.kind]))) (all2_trees hpl fun i x y hx hy => ?_)
    have hxy : x.text = y.text := by
      have := congrArg (fun l => l[i]?) hte
      simp only [List.getElem?_map, hx, hy, Option.map_some, Option.some.injEq] at this
      exact this
    obtain ⟨j', m', v', hj', rfl, hv'⟩ := hm2 x (List.mem_of_getElem? hx)
    obtain ⟨j, m, v, hj, rfl, hv⟩ := hm1 y (List.mem_of_getElem? hy)
    have hj'l : j' < sms.length := by have := (List.getElem?_eq_some_iff.1 hj').1; omega
    have hsj := List.getElem?_eq_getElem hj'l
    have hnm := hm j' _ m' hsj hj'
    have hmem : sms[j'] ∈ ms := hp.mem_iff.1 (List.getElem_mem hj'l)
    have hname : sms[j'].name = m.name := by rw [← hnm.2]; exact hxy
    have hme : sms[j'] = m := name_unique hd hmem (List.mem_of_getElem? hj) hname
    have hall := ih j' _ m' hsj hj' v v' (by rw [hme]; exact hks m (List.mem_of_getElem? hj)) (by rw [hme]; exact hv) hv'
    rw [show m'.name = m.name from hxy, hnm.1]
    exact all2_node (zero_eq (hz m (List.mem_of_getElem? hj)).1) (by simpa [nodesL] using hall)
end Go.Proofs.YtdcfbgpcpjjjaaaGreat.Co
