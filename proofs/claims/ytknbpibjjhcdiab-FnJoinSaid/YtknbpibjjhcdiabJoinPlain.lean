/-
  Join returns the texts that are not empty, with something between each two of them: for every list of at most 48 texts of at most 2000 bytes together.
  This text: the plain law (lists and numbers alone) of FnJoin.
-/
import Derived.Test.YtknbpibjjhcdiabQFnJoinx1
namespace Go.Proofs.Ytknbpibjjhcdiab.PFnJoin
open Go.RowKit Go.Proofs.YtknbpibjjhcdiabW.PrintWords Go.Proofs.YtknbpibjjhcdiabW.PrintLast Go.Proofs.YtknbpibjjhcdiabW.PrintMore
set_option linter.unusedVariables false
set_option linter.unusedSimpArgs false

theorem w64 {x : Int} (h : -4611686018427387904 ≤ x) (h' : x ≤ 4611686018427387904) : wrap64 x = x := by unfold wrap64; omega
/-- An element of a list by its place. -/
abbrev el (l : List ByteArray) (i : Nat) : ByteArray := rdOf ByteArray.empty l (i : Int)
theorem el_get {l : List ByteArray} {i : Nat} (h : i < l.length) : el l i = l[i] := by
  unfold el rdOf
  rw [Int.toNat_natCast, List.getD_eq_getElem?_getD, List.getElem?_eq_getElem h]
  rfl
theorem el_mem {l : List ByteArray} {i : Nat} (h : i < l.length) : el l i ∈ l := by rw [el_get h]; exact List.getElem_mem h
theorem take_el {l : List ByteArray} {i : Nat} (h : i < l.length) : l.take (i + 1) = l.take i ++ [el l i] := by
  rw [List.take_succ_eq_append_getElem h, el_get h]

/-- The sum of the sizes. -/
def total (l : List ByteArray) : Nat := (l.map ByteArray.size).sum
theorem total_snoc (l : List ByteArray) (s : ByteArray) : total (l ++ [s]) = total l + s.size := by simp [total]
theorem total_take_le (l : List ByteArray) (i : Nat) : total (l.take i) ≤ total l := by
  have h := congrArg List.sum (List.take_append_drop i (l.map ByteArray.size))
  rw [List.sum_append] at h
  unfold total
  rw [List.map_take]
  omega
theorem size_le_total {l : List ByteArray} {s : ByteArray} (h : s ∈ l) : s.size ≤ total l := by
  induction l with
  | nil => cases h
  | cons a l ih =>
    have e : total (a :: l) = a.size + total l := by simp [total]
    rcases List.mem_cons.1 h with rfl | h
    · omega
    · have := ih h; omega

theorem fits_loop (l : List ByteArray) (hl : l.length ≤ 2147483647) : ∀ n i k : Nat, l.length - i < n → n ≤ k → i ≤ l.length → (∀ j, j < i → (el l j).size ≤ 2147483647) →
    ∃ b, laws_zzFits8.l0 k l (l.length : Int) i = some b ∧ (b = true → ∀ s ∈ l, s.size ≤ 2147483647) := by
  intro n
  induction n with
  | zero => intro i k h; omega
  | succ n ih =>
    intro i k hn hk hi hj
    obtain ⟨k, rfl⟩ : ∃ m, k = m + 1 := ⟨k - 1, by omega⟩
    simp only [laws_zzFits8.l0]
    by_cases hlt : i < l.length
    · rw [if_pos (by omega), if_pos (by omega), if_pos (by omega)]
      by_cases hs : ((el l i).size : Int) > 2147483647
      · rw [if_pos hs]
        exact ⟨false, rfl, fun h => by cases h⟩
      · rw [if_neg hs, w64 (by omega) (by omega)]
        have := ih (i + 1) k (by omega) (by omega) (by omega) (fun j hj' => by
          by_cases e : j = i
          · subst e; omega
          · exact hj j (by omega))
        simpa using this
    · rw [if_neg (by omega)]
      refine ⟨true, rfl, fun _ s hs => ?_⟩
      obtain ⟨j, hjl, rfl⟩ := List.getElem_of_mem hs
      rw [← el_get hjl]
      exact hj j (by omega)

theorem fits_tell (l : List ByteArray) : ∃ b, (∀ k, l.length < k → laws_zzFits8.f k l = some b) ∧ (b = true → l.length ≤ 2147483647 ∧ ∀ s ∈ l, s.size ≤ 2147483647) := by
  by_cases hl : (l.length : Int) > 2147483647
  · exact ⟨false, fun k _ => by unfold laws_zzFits8.f; rw [if_pos hl], fun h => by cases h⟩
  · obtain ⟨b, h1, h2⟩ := fits_loop l (by omega) (l.length + 1) 0 (l.length + 1) (by omega) (by omega) (by omega) (fun j h => by omega)
    refine ⟨b, fun k hk => ?_, fun hb => ⟨by omega, h2 hb⟩⟩
    unfold laws_zzFits8.f
    rw [if_neg hl]
    exact at_rounds (g := fun k => laws_zzFits8.l0 k l (l.length : Int) 0) (fun k => laws_zzFits8.mono_l k _ _ _) (show l.length + 1 ≤ k by omega) (by simpa using h1)

theorem pieces_loop (l : List ByteArray) (hl : l.length ≤ 2147483648) (hs : ∀ s ∈ l, s.size ≤ 2147483647) : ∀ n i k : Nat, l.length - i < n → n ≤ k → i ≤ l.length →
    laws_pieces9.l0 k l (total (l.take i) : Nat) i = some (decide (l.length ≤ 50 ∧ total l ≤ 2000)) := by
  have ht : ∀ i : Nat, i ≤ l.length → total (l.take i) ≤ i * 2147483647 := by
    intro i
    induction i with
    | zero => intro _; simp [total]
    | succ i ih =>
      intro hi
      rw [take_el (by omega), total_snoc]
      have := ih (by omega)
      have := hs _ (el_mem (l := l) (i := i) (by omega))
      omega
  intro n
  induction n with
  | zero => intro i k h; omega
  | succ n ih =>
    intro i k hn hk hi
    obtain ⟨k, rfl⟩ : ∃ m, k = m + 1 := ⟨k - 1, by omega⟩
    simp only [laws_pieces9.l0]
    by_cases hlt : i < l.length
    · rw [if_pos (by omega), if_pos (by omega)]
      have h1 := ht i hi
      have h2 : (rdOf ByteArray.empty l (i : Int)).size ≤ 2147483647 := hs _ (el_mem hlt)
      have h3 := ih (i + 1) k (by omega) (by omega) (by omega)
      rw [take_el hlt, total_snoc] at h3
      have h3' : laws_pieces9.l0 k l ((total (l.take i) + (rdOf ByteArray.empty l (i : Int)).size : Nat) : Int) ((i + 1 : Nat) : Int) = some (decide (l.length ≤ 50 ∧ total l ≤ 2000)) := h3
      rw [w64 (by omega) (by omega), w64 (by omega) (by omega)]
      simpa using h3'
    · rw [if_neg (by omega)]
      have : i = l.length := by omega
      subst this
      rw [List.take_length]
      by_cases h50 : l.length ≤ 50
      · rw [if_pos (by omega)]
        simp [h50]
        omega
      · rw [if_neg (by omega)]
        simp [h50]

theorem pieces_tell (l : List ByteArray) (hl : l.length ≤ 2147483648) (hs : ∀ s ∈ l, s.size ≤ 2147483647) (k : Nat) (hk : l.length < k) : laws_pieces9.f k l = some (decide (l.length ≤ 50 ∧ total l ≤ 2000)) := by
  have := pieces_loop l hl hs (l.length + 1) 0 k (by omega) (by omega) (by omega)
  simpa [laws_pieces9.f, total] using this

/-- The texts that are not empty. -/
def full (l : List ByteArray) : List ByteArray := l.filter fun s => !s.data.toList.isEmpty
theorem full_snoc_no {l : List ByteArray} {s : ByteArray} (h : s.toList = []) : full (l ++ [s]) = full l := by
  rw [Go.ByteArray.toList_eq] at h
  have h2 : (!s.data.toList.isEmpty) = false := by rw [h]; rfl
  simp only [full, List.filter_append, List.filter_cons, h2, List.filter_nil]
  simp
theorem full_snoc_yes {l : List ByteArray} {s : ByteArray} (h : ¬ s.toList = []) : full (l ++ [s]) = full l ++ [s] := by
  rw [Go.ByteArray.toList_eq] at h
  have h2 : (!s.data.toList.isEmpty) = true := by
    cases e : s.data.toList with
    | nil => exact absurd e h
    | cons a r => rfl
  simp only [full, List.filter_append, List.filter_cons, h2, List.filter_nil]
  simp
theorem full_length_le (l : List ByteArray) : (full l).length ≤ l.length := List.length_filter_le _ _

theorem joinBytes_snoc (q : List ByteArray) (s sep : ByteArray) : joinBytes (q ++ [s]) sep = if q = [] then s.data.toList else joinBytes q sep ++ sep.data.toList ++ s.data.toList := by
  unfold joinBytes
  cases q with
  | nil => simp [Lib.join_one]
  | cons a q =>
    rw [if_neg (by simp)]
    simp only [List.cons_append, List.map_cons, List.map_append, List.map_nil, Lib.join_cons]
    simp [Lib.joinTail]

theorem join_loop (l : List ByteArray) (sep : ByteArray) (hl : l.length ≤ 50) : ∀ n i k : Nat, l.length - i < n → n ≤ k → i ≤ l.length →
    printer_join.l0 k sep (full (l.take i)) l (l.length : Int) i = strings_Join.f (full l) sep := by
  intro n
  induction n with
  | zero => intro i k h; omega
  | succ n ih =>
    intro i k hn hk hi
    obtain ⟨k, rfl⟩ : ∃ m, k = m + 1 := ⟨k - 1, by omega⟩
    simp only [printer_join.l0]
    by_cases hlt : i < l.length
    · rw [if_pos (by omega), if_pos (by omega), if_pos (by omega), w64 (by omega) (by omega)]
      have h3 := ih (i + 1) k (by omega) (by omega) (by omega)
      rw [take_el hlt] at h3
      have h4 := full_length_le (l.take i)
      rw [List.length_take] at h4
      by_cases he : (el l i).toList = []
      · rw [if_pos he]
        rw [full_snoc_no he] at h3
        simpa using h3
      · rw [if_neg he, if_pos (by omega)]
        rw [full_snoc_yes he] at h3
        simpa using h3
    · rw [if_neg (by omega)]
      have : i = l.length := by omega
      subst this
      rw [List.take_length]
      simp

theorem join_tells (l : List ByteArray) (sep : ByteArray) (hl : l.length ≤ 50) (k : Nat) (hk : l.length < k) : impl_Join.f k l sep = strings_Join.f (full l) sep := by
  have := join_loop l sep hl (l.length + 1) 0 k (by omega) (by omega) (by omega)
  simp only [List.take_zero] at this
  simp only [impl_Join.f, printer_Join.f, printer_join.f]
  have e : (full [] : List ByteArray) = [] := rfl
  rw [e, show ((0 : Nat) : Int) = 0 from rfl] at this
  rw [this]
  simp

theorem example_tells (k : Nat) (hk : 3 < k) : impl_Join.f k [(⟨#[97]⟩ : ByteArray), (⟨#[]⟩ : ByteArray), (⟨#[98]⟩ : ByteArray)] (⟨#[45]⟩ : ByteArray) = some ⟨#[97, 45, 98]⟩ := by
  rw [join_tells _ _ (by simp) k (by simpa using hk)]
  have e : full [(⟨#[97]⟩ : ByteArray), (⟨#[]⟩ : ByteArray), (⟨#[98]⟩ : ByteArray)] = [(⟨#[97]⟩ : ByteArray), (⟨#[98]⟩ : ByteArray)] := rfl
  rw [e]
  have j : joinBytes [(⟨#[97]⟩ : ByteArray), (⟨#[98]⟩ : ByteArray)] (⟨#[45]⟩ : ByteArray) = [97, 45, 98] := rfl
  unfold strings_Join.f
  rw [j]
  rfl

theorem law_loop (l : List ByteArray) (sep : ByteArray) (hl : l.length ≤ 50) (hs : ∀ s ∈ l, s.size ≤ 2000) (hsep : sep.size ≤ 2000) : ∀ (n i k : Nat) (x5 : ByteArray) (x6 : Bool), l.length - i < n → n + 60 ≤ k → i ≤ l.length →
    x5.data.toList = joinBytes (full (l.take i)) sep → x5.size ≤ 4000 * i → (x6 = true ↔ full (l.take i) ≠ []) →
    laws_FnJoin.l0 k l sep x5 x6 i = some true := by
  intro n
  induction n with
  | zero => intro i k x5 x6 h; omega
  | succ n ih =>
    intro i k x5 x6 hn hk hi h5 hz h6
    obtain ⟨k, rfl⟩ : ∃ m, k = m + 1 := ⟨k - 1, by omega⟩
    simp only [laws_FnJoin.l0]
    by_cases hlt : i < l.length
    · rw [if_pos (by omega), if_pos (by omega), w64 (by omega) (by omega)]
      have hx : (rdOf ByteArray.empty l (i : Int)).size ≤ 2000 := hs _ (el_mem hlt)
      have ih' := fun (y5 : ByteArray) (y6 : Bool) h1 h2 h3 => ih (i + 1) k y5 y6 (by omega) (by omega) (by omega) h1 h2 h3
      rw [take_el hlt] at ih'
      by_cases he : (el l i).toList = []
      · rw [if_pos he]
        rw [full_snoc_no he] at ih'
        simpa using ih' x5 x6 h5 (by omega) h6
      · rw [if_neg he]
        rw [full_snoc_yes he] at ih'
        by_cases h : x6 = true
        · rw [if_pos h, if_pos (by omega), if_pos (by rw [ByteArray.size_append]; omega)]
          have := ih' ((x5 ++ sep) ++ el l i) true (by
            rw [joinBytes_snoc, if_neg (h6.1 h), ← h5]
            simp [ByteArray.data_append]) (by rw [ByteArray.size_append, ByteArray.size_append]; show x5.size + sep.size + (rdOf ByteArray.empty l (i : Int)).size ≤ _; omega) (by simp)
          simpa using this
        · rw [if_neg h, if_pos (by omega)]
          have hq : full (l.take i) = [] := by
            apply Classical.byContradiction
            intro hq
            exact h (h6.2 hq)
          have h5' : x5.data.toList = [] := by rw [h5, hq]; rfl
          have := ih' (x5 ++ el l i) true (by
            rw [joinBytes_snoc, if_pos hq]
            simp [ByteArray.data_append, h5']) (by rw [ByteArray.size_append]; show x5.size + (rdOf ByteArray.empty l (i : Int)).size ≤ _; omega) (by simp)
          simpa using this
    · rw [if_neg (by omega)]
      have hi' : i = l.length := by omega
      subst hi'
      rw [List.take_length] at h5
      have hfl := full_length_le l
      have h5z : (joinBytes (full l) sep).length ≤ 140737488355328 := by
        rw [← h5, Array.length_toList]
        have : x5.data.size = x5.size := rfl
        omega
      have hj : strings_Join.f (full l) sep = some ⟨(joinBytes (full l) sep).toArray⟩ := by
        unfold strings_Join.f
        rw [if_pos ⟨by omega, h5z⟩]
      rw [join_tells l sep hl k (by omega), hj]
      simp only [Option.bind_some]
      rw [if_pos (by rw [Go.ByteArray.toList_eq, Go.ByteArray.toList_eq, h5]), example_tells k (by omega)]
      simp only [Option.bind_some]
      rw [Go.ByteArray.toList_eq]
      rfl

/-- The law. -/
theorem law_tells (l : List ByteArray) (sep : ByteArray) : ∃ k, laws_FnJoin.f k l sep = some true := by
  obtain ⟨b, hb, hbt⟩ := fits_tell l
  refine ⟨l.length + 200, ?_⟩
  unfold laws_FnJoin.f
  rw [hb _ (by omega)]
  simp only [Option.bind_some]
  have hj : laws_FnJoin.j0 (l.length + 200) l sep true = some true := by simp [laws_FnJoin.j0]
  cases b with
  | false => rw [if_neg (by simp)]; exact hj
  | true =>
    rw [if_pos rfl]
    obtain ⟨hl, hs⟩ := hbt rfl
    by_cases hz : (sep.size : Int) > 2147483647
    · rw [decide_eq_true hz]; exact hj
    · rw [decide_eq_false hz]
      rw [show l.length + 200 = (l.length + 199) + 1 from rfl]
      simp only [laws_FnJoin.j0]
      rw [if_neg (by simp)]
      simp only [Option.bind_some]
      rw [if_pos (by simp; omega)]
      rw [pieces_tell ([sep] ++ l) (by simp; omega) (fun s h => by
        rcases List.mem_append.1 h with h | h
        · rw [List.mem_singleton.1 h]; omega
        · exact hs s h) _ (by simp)]
      simp only [Option.bind_some]
      by_cases hp : ([sep] ++ l).length ≤ 50 ∧ total ([sep] ++ l) ≤ 2000
      · rw [decide_eq_true hp, if_pos rfl]
        obtain ⟨hp1, hp2⟩ := hp
        have hl50 : l.length ≤ 49 := by simp at hp1; omega
        exact law_loop l sep (by omega) (fun s h => Nat.le_trans (size_le_total (List.mem_append_right _ h)) hp2) (Nat.le_trans (size_le_total (List.mem_append_left _ (List.mem_singleton.2 rfl))) hp2)
          (l.length + 1) 0 (l.length + 199) _ false (by omega) (by omega) (by omega) rfl (by simp; rfl) (by simp [full])
      · rw [decide_eq_false hp, if_neg (by simp)]

theorem law_walk (A0 : Option Addr) (c0 : Nat) (l0 : List ByteArray) (a1 : ByteArray) (w : World) (hr0 : Kd.C Kd.string w A0 l0.length l0) (hc0 : l0.length ≤ c0) (hm0 : l0.length ≤ maxLen) (h1 : a1.size ≤ 140737488351232) :
    Calls Try.prog 3 #[.slice A0 l0.length c0, .string a1] w fun e w' => e = .returned (.bool true) ∧ Below w.heap.size w w' := by
  obtain ⟨k, hk⟩ := law_tells l0 a1
  exact laws_FnJoin.calls k A0 c0 l0 a1 true w hr0 hc0 hk

end Go.Proofs.Ytknbpibjjhcdiab.PFnJoin
