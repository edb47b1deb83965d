/-
  Block returns texts in lines of their own, set in by two blanks, within braces: for every list of texts that are not empty, of at most 50 texts of at most 2000 bytes together.
  This text: the plain law (lists and numbers alone) of FnBlock.
-/
import Derived.Test.YtknbpibjjhcdiacRFnBlockx1
namespace Go.Proofs.Ytknbpibjjhcdiac.PFnBlock.R
open Go.RowKit Go.Proofs.YtknbpibjjhcdiacW.PrintWords Go.Proofs.YtknbpibjjhcdiacW.PrintLast Go.Proofs.YtknbpibjjhcdiacW.PrintMore
set_option linter.unusedVariables false
set_option linter.unusedSimpArgs false

theorem w64 {x : Int} (h : -4611686018427387904 ≤ x) (h' : x ≤ 4611686018427387904) : wrap64 x = x := by unfold wrap64; omega
/-- An element of a list by its place. -/
abbrev el (l : List ByteArray) (i : Nat) : ByteArray := rdOf ByteArray.empty l (i : Int)
theorem el_get {l : List ByteArray} {i : Nat} (h : i < l.length) : el l i = l[i] := by
  unfold el rdOf
  rw [Int.toNat_natCast, List.getD_eq_getElem?_getD, List.getElem?_eq_getElem h]
  rfl
theorem el_mem {l : List ByteArray} {i : Nat} (h : i < l.length) : el l i ∈ l := by rw [el_get h]; exact List.getElem_mem h
theorem take_el {l : List ByteArray} {i : Nat} (h : i < l.length) : l.take (i + 1) = l.take i ++ [el l i] := by
  rw [List.take_succ_eq_append_getElem h, el_get h]

/-- The sum of the sizes. -/
def total (l : List ByteArray) : Nat := (l.map ByteArray.size).sum
theorem total_snoc (l : List ByteArray) (s : ByteArray) : total (l ++ [s]) = total l + s.size := by simp [total]
theorem total_take_le (l : List ByteArray) (i : Nat) : total (l.take i) ≤ total l := by
  have h := congrArg List.sum (List.take_append_drop i (l.map ByteArray.size))
  rw [List.sum_append] at h
  unfold total
  rw [List.map_take]
  omega
theorem size_le_total {l : List ByteArray} {s : ByteArray} (h : s ∈ l) : s.size ≤ total l := by
  induction l with
  | nil => cases h
  | cons a l ih =>
    have e : total (a :: l) = a.size + total l := by simp [total]
    rcases List.mem_cons.1 h with rfl | h
    · omega
    · have := ih h; omega

theorem fits_loop (l : List ByteArray) (hl : l.length ≤ 2147483647) : ∀ n i k : Nat, l.length - i < n → n ≤ k → i ≤ l.length → (∀ j, j < i → (el l j).size ≤ 2147483647) →
    ∃ b, laws_zzFits8.l0 k l (l.length : Int) i = some b ∧ (b = true → ∀ s ∈ l, s.size ≤ 2147483647) := by
  intro n
  induction n with
  | zero => intro i k h; omega
  | succ n ih =>
    intro i k hn hk hi hj
    obtain ⟨k, rfl⟩ : ∃ m, k = m + 1 := ⟨k - 1, by omega⟩
    simp only [laws_zzFits8.l0]
    by_cases hlt : i < l.length
    · rw [if_pos (by omega), if_pos (by omega), if_pos (by omega)]
      by_cases hs : ((el l i).size : Int) > 2147483647
      · rw [if_pos hs]
        exact ⟨false, rfl, fun h => by cases h⟩
      · rw [if_neg hs, w64 (by omega) (by omega)]
        have := ih (i + 1) k (by omega) (by omega) (by omega) (fun j hj' => by
          by_cases e : j = i
          · subst e; omega
          · exact hj j (by omega))
        simpa using this
    · rw [if_neg (by omega)]
      refine ⟨true, rfl, fun _ s hs => ?_⟩
      obtain ⟨j, hjl, rfl⟩ := List.getElem_of_mem hs
      rw [← el_get hjl]
      exact hj j (by omega)

theorem fits_tell (l : List ByteArray) : ∃ b, (∀ k, l.length < k → laws_zzFits8.f k l = some b) ∧ (b = true → l.length ≤ 2147483647 ∧ ∀ s ∈ l, s.size ≤ 2147483647) := by
  by_cases hl : (l.length : Int) > 2147483647
  · exact ⟨false, fun k _ => by unfold laws_zzFits8.f; rw [if_pos hl], fun h => by cases h⟩
  · obtain ⟨b, h1, h2⟩ := fits_loop l (by omega) (l.length + 1) 0 (l.length + 1) (by omega) (by omega) (by omega) (fun j h => by omega)
    refine ⟨b, fun k hk => ?_, fun hb => ⟨by omega, h2 hb⟩⟩
    unfold laws_zzFits8.f
    rw [if_neg hl]
    exact at_rounds (g := fun k => laws_zzFits8.l0 k l (l.length : Int) 0) (fun k => laws_zzFits8.mono_l k _ _ _) (show l.length + 1 ≤ k by omega) (by simpa using h1)

theorem pieces_loop (l : List ByteArray) (hl : l.length ≤ 2147483648) (hs : ∀ s ∈ l, s.size ≤ 2147483647) : ∀ n i k : Nat, l.length - i < n → n ≤ k → i ≤ l.length →
    laws_pieces9.l0 k l (total (l.take i) : Nat) i = some (decide (l.length ≤ 50 ∧ total l ≤ 2000)) := by
  have ht : ∀ i : Nat, i ≤ l.length → total (l.take i) ≤ i * 2147483647 := by
    intro i
    induction i with
    | zero => intro _; simp [total]
    | succ i ih =>
      intro hi
      rw [take_el (by omega), total_snoc]
      have := ih (by omega)
      have := hs _ (el_mem (l := l) (i := i) (by omega))
      omega
  intro n
  induction n with
  | zero => intro i k h; omega
  | succ n ih =>
    intro i k hn hk hi
    obtain ⟨k, rfl⟩ : ∃ m, k = m + 1 := ⟨k - 1, by omega⟩
    simp only [laws_pieces9.l0]
    by_cases hlt : i < l.length
    · rw [if_pos (by omega), if_pos (by omega)]
      have h1 := ht i hi
      have h2 : (rdOf ByteArray.empty l (i : Int)).size ≤ 2147483647 := hs _ (el_mem hlt)
      have h3 := ih (i + 1) k (by omega) (by omega) (by omega)
      rw [take_el hlt, total_snoc] at h3
      have h3' : laws_pieces9.l0 k l ((total (l.take i) + (rdOf ByteArray.empty l (i : Int)).size : Nat) : Int) ((i + 1 : Nat) : Int) = some (decide (l.length ≤ 50 ∧ total l ≤ 2000)) := h3
      rw [w64 (by omega) (by omega), w64 (by omega) (by omega)]
      simpa using h3'
    · rw [if_neg (by omega)]
      have : i = l.length := by omega
      subst this
      rw [List.take_length]
      by_cases h50 : l.length ≤ 50
      · rw [if_pos (by omega)]
        simp [h50]
        omega
      · rw [if_neg (by omega)]
        simp [h50]

theorem pieces_tell (l : List ByteArray) (hl : l.length ≤ 2147483648) (hs : ∀ s ∈ l, s.size ≤ 2147483647) (k : Nat) (hk : l.length < k) : laws_pieces9.f k l = some (decide (l.length ≤ 50 ∧ total l ≤ 2000)) := by
  have := pieces_loop l hl hs (l.length + 1) 0 k (by omega) (by omega) (by omega)
  simpa [laws_pieces9.f, total] using this

/-- The texts that are not empty. -/
def full (l : List ByteArray) : List ByteArray := l.filter fun s => !s.data.toList.isEmpty
theorem full_snoc_no {l : List ByteArray} {s : ByteArray} (h : s.toList = []) : full (l ++ [s]) = full l := by
  rw [Go.ByteArray.toList_eq] at h
  have h2 : (!s.data.toList.isEmpty) = false := by rw [h]; rfl
  simp only [full, List.filter_append, List.filter_cons, h2, List.filter_nil]
  simp
theorem full_snoc_yes {l : List ByteArray} {s : ByteArray} (h : ¬ s.toList = []) : full (l ++ [s]) = full l ++ [s] := by
  rw [Go.ByteArray.toList_eq] at h
  have h2 : (!s.data.toList.isEmpty) = true := by
    cases e : s.data.toList with
    | nil => exact absurd e h
    | cons a r => rfl
  simp only [full, List.filter_append, List.filter_cons, h2, List.filter_nil]
  simp
theorem full_length_le (l : List ByteArray) : (full l).length ≤ l.length := List.length_filter_le _ _

theorem joinBytes_snoc (q : List ByteArray) (s sep : ByteArray) : joinBytes (q ++ [s]) sep = if q = [] then s.data.toList else joinBytes q sep ++ sep.data.toList ++ s.data.toList := by
  unfold joinBytes
  cases q with
  | nil => simp [Lib.join_one]
  | cons a q =>
    rw [if_neg (by simp)]
    simp only [List.cons_append, List.map_cons, List.map_append, List.map_nil, Lib.join_cons]
    simp [Lib.joinTail]

theorem join_loop (l : List ByteArray) (sep : ByteArray) (hl : l.length ≤ 50) : ∀ n i k : Nat, l.length - i < n → n ≤ k → i ≤ l.length →
    printer_join.l0 k sep (full (l.take i)) l (l.length : Int) i = strings_Join.f (full l) sep := by
  intro n
  induction n with
  | zero => intro i k h; omega
  | succ n ih =>
    intro i k hn hk hi
    obtain ⟨k, rfl⟩ : ∃ m, k = m + 1 := ⟨k - 1, by omega⟩
    simp only [printer_join.l0]
    by_cases hlt : i < l.length
    · rw [if_pos (by omega), if_pos (by omega), if_pos (by omega), w64 (by omega) (by omega)]
      have h3 := ih (i + 1) k (by omega) (by omega) (by omega)
      rw [take_el hlt] at h3
      have h4 := full_length_le (l.take i)
      rw [List.length_take] at h4
      by_cases he : (el l i).toList = []
      · rw [if_pos he]
        rw [full_snoc_no he] at h3
        simpa using h3
      · rw [if_neg he, if_pos (by omega)]
        rw [full_snoc_yes he] at h3
        simpa using h3
    · rw [if_neg (by omega)]
      have : i = l.length := by omega
      subst this
      rw [List.take_length]
      simp


theorem join_tells (l : List ByteArray) (sep : ByteArray) (hl : l.length ≤ 50) (k : Nat) (hk : l.length < k) : printer_join.f k l sep = strings_Join.f (full l) sep := by
  have := join_loop l sep hl (l.length + 1) 0 k (by omega) (by omega) (by omega)
  simp only [List.take_zero] at this
  have e : (full [] : List ByteArray) = [] := rfl
  rw [e, show ((0 : Nat) : Int) = 0 from rfl] at this
  exact this

/-- Two blanks behind each line feed. -/
def ind (l : List UInt8) : List UInt8 := l.flatMap fun c => if c = 10 then [10, 32, 32] else [c]
theorem ind_append (a b : List UInt8) : ind (a ++ b) = ind a ++ ind b := by simp [ind, List.flatMap_append]
theorem ind_length (l : List UInt8) : (ind l).length ≤ 3 * l.length := by
  induction l with
  | nil => simp [ind]
  | cons c r ih =>
    have e : ind (c :: r) = (if c = 10 then [10, 32, 32] else [c]) ++ ind r := rfl
    rw [e, List.length_append]
    split <;> simp <;> omega
abbrev by' (s : ByteArray) : List UInt8 := s.data.toList
theorem by_length (s : ByteArray) : (by' s).length = s.size := by unfold by'; rw [Array.length_toList]; rfl
theorem bt_by {s : ByteArray} {i : Nat} (h : i < s.size) : ∃ c : UInt8, (by' s)[i]? = some c ∧ bt s (i : Int) = (c.toNat : Int) := by
  refine ⟨s[i], ?_, ?_⟩
  · rw [List.getElem?_eq_getElem (by rw [by_length]; exact h)]
    rfl
  · unfold bt
    rw [Int.toNat_natCast, dif_pos h]
theorem bt_ten {c : UInt8} {x : Int} (h : x = (c.toNat : Int)) : x = 10 ↔ c = 10 := by
  constructor
  · intro hx
    apply UInt8.toNat_inj.1
    show c.toNat = 10
    omega
  · rintro rfl
    exact h
theorem take_by {s : ByteArray} {i : Nat} {c : UInt8} (h : (by' s)[i]? = some c) : (by' s).take (i + 1) = (by' s).take i ++ [c] := by
  obtain ⟨hl, rfl⟩ := List.getElem?_eq_some_iff.1 h
  exact List.take_succ_eq_append_getElem hl
theorem drop_by {s : ByteArray} {i : Nat} {c : UInt8} (h : (by' s)[i]? = some c) : (by' s).drop i = c :: (by' s).drop (i + 1) := by
  obtain ⟨hl, rfl⟩ := List.getElem?_eq_some_iff.1 h
  exact List.drop_eq_getElem_cons hl

theorem ind_loop (s : ByteArray) (hs : s.size ≤ 100000) : ∀ (n i k : Nat) (x3 : List Int), s.size - i < n → n ≤ k → i ≤ s.size → x3.length ≤ 3 * i →
    printer_zzIndent.l0 k s x3 i = some ⟨(x3.map (fun n => UInt8.ofNat n.toNat) ++ ind ((by' s).drop i)).toArray⟩ := by
  intro n
  induction n with
  | zero => intro i k x3 h; omega
  | succ n ih =>
    intro i k x3 hn hk hi hx
    obtain ⟨k, rfl⟩ : ∃ m, k = m + 1 := ⟨k - 1, by omega⟩
    simp only [printer_zzIndent.l0]
    by_cases hlt : i < s.size
    · obtain ⟨c, hc, hb⟩ := bt_by hlt
      have hw : wrap64 ((i : Int) + 1) = ((i + 1 : Nat) : Int) := by rw [w64 (by omega) (by omega)]; rfl
      have HW := Aside0.mk hw
      clear hw
      rw [if_pos (by omega), if_pos (by omega), if_pos (by omega)]
      simp only [Option.bind_some, HW.out]
      rw [drop_by hc]
      have hu : UInt8.ofNat (bt s (i : Int)).toNat = c := by rw [hb, Int.toNat_natCast]; exact UInt8.ofNat_toNat
      by_cases h10 : bt s (i : Int) = 10
      · have hc10 := (bt_ten hb).1 h10
        rw [if_pos h10, if_pos (by simp; omega), ih (i + 1) k _ (by omega) (by omega) (by omega) (by simp; omega)]
        have e : ind (c :: (by' s).drop (i + 1)) = [10, 32, 32] ++ ind ((by' s).drop (i + 1)) := by rw [hc10]; rfl
        rw [e]
        simp only [List.map_append, List.map_cons, List.map_nil, hu, hc10]
        simp
      · have hc10 : ¬ c = 10 := fun h => h10 ((bt_ten hb).2 h)
        rw [if_neg h10, ih (i + 1) k _ (by omega) (by omega) (by omega) (by simp; omega)]
        have e : ind (c :: (by' s).drop (i + 1)) = [c] ++ ind ((by' s).drop (i + 1)) := by
          show (if c = 10 then [10, 32, 32] else [c]) ++ _ = _
          rw [if_neg hc10]; rfl
        rw [e]
        simp only [List.map_append, List.map_cons, List.map_nil, hu]
        simp
    · rw [if_neg (by omega)]
      rw [List.drop_of_length_le (by rw [by_length]; omega)]
      simp [strOfNums, ind]

theorem ind_tells (s : ByteArray) (hs : s.size ≤ 100000) (k : Nat) (hk : s.size < k) : printer_zzIndent.f k s = some ⟨(ind (by' s)).toArray⟩ := by
  have := ind_loop s hs (s.size + 1) 0 k [] (by omega) (by omega) (by omega) (by simp)
  simpa [printer_zzIndent.f] using this

/-- A line: a line feed, two blanks, the text set in. -/
def line (s : ByteArray) : List UInt8 := [10, 32, 32] ++ ind (by' s)
theorem ind_join (a : ByteArray) (r : List ByteArray) : ind ([123, 10] ++ joinBytes (a :: r) ⟨#[10]⟩) = [123] ++ (a :: r).flatMap line := by
  unfold joinBytes
  simp only [List.map_cons, Lib.join_cons]
  have h : ∀ r : List ByteArray, ind (Lib.joinTail [10] (r.map (·.data.toList))) = r.flatMap line := by
    intro r
    induction r with
    | nil => rfl
    | cons b r ih =>
      have e : Lib.joinTail [10] ((b :: r).map (·.data.toList)) = [10] ++ b.data.toList ++ Lib.joinTail [10] (r.map (·.data.toList)) := by simp [Lib.joinTail]
      rw [e, ind_append, ind_append, ih]
      rfl
  rw [ind_append, ind_append, h]
  rfl
theorem lens_total (l : List ByteArray) : Lib.lens (l.map (·.data.toList)) = total l := by
  induction l with
  | nil => rfl
  | cons a l ih =>
    have e : total (a :: l) = a.size + total l := by simp [total]
    rw [e, ← ih]
    simp [Lib.lens]
theorem joinBytes_length (a : ByteArray) (r : List ByteArray) : (joinBytes (a :: r) ⟨#[10]⟩).length = r.length + total (a :: r) := by
  unfold joinBytes
  simp only [List.map_cons]
  rw [Lib.join_length, ← List.map_cons (f := fun s : ByteArray => s.data.toList), lens_total]
  simp
theorem full_all {l : List ByteArray} (h : ∀ s ∈ l, ¬ s.toList = []) : full l = l := by
  refine List.filter_eq_self.2 fun s hs => ?_
  have := h s hs
  rw [Go.ByteArray.toList_eq] at this
  cases e : s.data.toList with
  | nil => exact absurd e this
  | cons a r => rfl

theorem block_tells (l : List ByteArray) (hl : l.length ≤ 50) (ht : total l ≤ 2000) (hne : ∀ s ∈ l, ¬ s.toList = []) (k : Nat) (hk : 3000 ≤ k) :
    impl_Block.f k l = some ⟨([123] ++ l.flatMap line ++ (if l = [] then [125] else [10, 125])).toArray⟩ := by
  unfold impl_Block.f printer_Block.f
  rw [if_pos hl]
  cases l with
  | nil => rfl
  | cons a r =>
    have hlen := joinBytes_length a r
    have hl' : r.length + 1 ≤ 50 := by simpa using hl
    rw [if_neg (by simp), join_tells _ _ hl k (by omega), full_all hne]
    have hj : strings_Join.f (a :: r) ⟨#[10]⟩ = some ⟨(joinBytes (a :: r) ⟨#[10]⟩).toArray⟩ := by
      unfold strings_Join.f
      rw [if_pos ⟨by omega, by omega⟩]
    rw [hj]
    simp only [Option.bind_some]
    have hz : (⟨(joinBytes (a :: r) ⟨#[10]⟩).toArray⟩ : ByteArray).size = r.length + total (a :: r) := by rw [← hlen]; simp [ByteArray.size]
    rw [if_pos (by omega)]
    have hz2 : ((⟨#[123, 10]⟩ : ByteArray) ++ ⟨(joinBytes (a :: r) ⟨#[10]⟩).toArray⟩).size = 2 + (r.length + total (a :: r)) := by rw [ByteArray.size_append, hz]; rfl
    rw [ind_tells _ (by omega) k (by omega)]
    simp only [Option.bind_some]
    have hby : by' ((⟨#[123, 10]⟩ : ByteArray) ++ ⟨(joinBytes (a :: r) ⟨#[10]⟩).toArray⟩) = [123, 10] ++ joinBytes (a :: r) ⟨#[10]⟩ := by
      simp [by', ByteArray.data_append]
    rw [hby, ind_join]
    have hz3 : (⟨([123] ++ (a :: r).flatMap line).toArray⟩ : ByteArray).size ≤ 1000000 := by
      rw [← ind_join]
      have := ind_length ([123, 10] ++ joinBytes (a :: r) ⟨#[10]⟩)
      simp only [List.length_append, hlen] at this
      simp [ByteArray.size]
      simp at this
      omega
    rw [if_pos hz3, if_neg (by simp)]
    simp only [Option.bind_some]
    congr 1

theorem line_length (s : ByteArray) : (line s).length ≤ 3 + 3 * s.size := by
  unfold line
  have := ind_length (by' s)
  rw [by_length] at this
  simp
  omega
theorem lines_length (l : List ByteArray) : (l.flatMap line).length ≤ 3 * l.length + 3 * total l := by
  induction l with
  | nil => simp
  | cons a l ih =>
    have e : total (a :: l) = a.size + total l := by simp [total]
    have := line_length a
    simp only [List.flatMap_cons, List.length_append, List.length_cons]
    omega

theorem ba_ext {a b : ByteArray} (h : by' a = by' b) : a = b := by
  exact ByteArray.ext (Array.toList_inj.1 h)

/-- One byte of a text, cut out. -/
theorem cut_one {s : ByteArray} {i : Nat} {c : UInt8} (h : (by' s)[i]? = some c) : by' (s.extract i (i + 1)) = [c] := by
  obtain ⟨hl, rfl⟩ := List.getElem?_eq_some_iff.1 h
  unfold by' at hl ⊢
  rw [ByteArray.data_extract, Array.toList_extract]
  rw [List.extract_eq_take_drop]
  rw [show i + 1 - i = 1 by omega, List.drop_eq_getElem_cons hl]
  rfl

theorem inner_loop (l : List ByteArray) (hl : l.length ≤ 50) (ht : total l ≤ 2000) (i K sz : Nat) (hi : i < l.length) (hsz : (el l i).size = sz)
    (hout : ∀ (k : Nat) (x3 : ByteArray), K ≤ k → by' x3 = [123] ++ (l.take (i + 1)).flatMap line → laws_FnBlock.l0 k l x3 ((i + 1 : Nat) : Int) = some true) :
    ∀ (N j k : Nat) (x3 : ByteArray), sz - j < N → N + K ≤ k → j ≤ sz → by' x3 = [123] ++ (l.take i).flatMap line ++ [10, 32, 32] ++ ind ((by' (el l i)).take j) → laws_FnBlock.l1 k l x3 i j = some true := by
  intro N
  induction N with
  | zero => intro j k x3 h; omega
  | succ N ih =>
    intro j k x3 hN hk hj h3
    obtain ⟨k, rfl⟩ : ∃ m, k = m + 1 := ⟨k - 1, by omega⟩
    have hx : x3.size ≤ 20000 := by
      have hx : x3.size = 1 + ((l.take i).flatMap line).length + 3 + (ind ((by' (el l i)).take j)).length := by rw [← by_length, h3]; simp; omega
      have hll := lines_length (l.take i)
      have htl := total_take_le l (i + 1)
      have hti := total_snoc (l.take i) (el l i)
      rw [← take_el hi] at hti
      rw [List.length_take] at hll
      have hil := ind_length ((by' (el l i)).take j)
      rw [List.length_take, by_length] at hil
      omega
    have hszz : sz ≤ 2000 := by
      have := size_le_total (el_mem hi)
      omega
    have hsz' : (rdOf ByteArray.empty l (i : Int)).size = sz := hsz
    have hw : wrap64 ((j : Int) + 1) = ((j + 1 : Nat) : Int) := by rw [w64 (by omega) (by omega)]; rfl
    have hv : wrap64 ((i : Int) + 1) = ((i + 1 : Nat) : Int) := by rw [w64 (by omega) (by omega)]; rfl
    have HW := Aside0.mk hw
    have HV := Aside0.mk hv
    clear hw hv
    simp only [laws_FnBlock.l1, HW.out, HV.out, Int.toNat_natCast]
    rw [if_pos (by omega), if_pos (by omega)]
    by_cases hlt : j < sz
    · obtain ⟨c, hc, hb⟩ := bt_by (s := el l i) (i := j) (by omega)
      have hb' : bt (rdOf ByteArray.empty l (i : Int)) (j : Int) = (c.toNat : Int) := hb
      have HB := Aside0.mk hb'
      clear hb hb'
      have hcut := cut_one hc
      have hcl : ((rdOf ByteArray.empty l (i : Int)).extract j (j + 1)).size = 1 := by rw [← by_length]; show (by' ((el l i).extract j (j + 1))).length = 1; rw [hcut]; rfl
      have hcat : by' (x3 ++ (rdOf ByteArray.empty l (i : Int)).extract j (j + 1)) = by' x3 ++ [c] := by
        rw [← hcut]
        simp [by', ByteArray.data_append]
      have hcs : (x3 ++ (rdOf ByteArray.empty l (i : Int)).extract j (j + 1)).size = x3.size + 1 := by rw [ByteArray.size_append, hcl]
      rw [if_pos (by omega), if_pos (by omega), if_pos (by omega), if_pos (by omega), if_pos (by omega)]
      by_cases h10 : bt (rdOf ByteArray.empty l (i : Int)) (j : Int) = 10
      · have hc10 := (bt_ten HB.out).1 h10
        rw [if_pos h10, if_pos (by omega)]
        refine ih (j + 1) k _ (by omega) (by omega) (by omega) ?_
        have e2 : by' (x3 ++ (rdOf ByteArray.empty l (i : Int)).extract j (j + 1) ++ (⟨#[32, 32]⟩ : ByteArray)) = by' (x3 ++ (rdOf ByteArray.empty l (i : Int)).extract j (j + 1)) ++ [32, 32] := by simp [by', ByteArray.data_append]
        rw [e2, hcat, h3, take_by hc, ind_append, hc10]
        have e3 : ind [10] = [10, 32, 32] := rfl
        rw [e3]
        simp
      · have hc10 : ¬ c = 10 := fun h => h10 ((bt_ten HB.out).2 h)
        rw [if_neg h10]
        refine ih (j + 1) k _ (by omega) (by omega) (by omega) ?_
        rw [hcat, h3, take_by hc, ind_append]
        have e3 : ind [c] = [c] := by
          show (if c = 10 then [10, 32, 32] else [c]) ++ [] = _
          rw [if_neg hc10]; rfl
        rw [e3]
        simp
    · rw [if_neg (by omega)]
      have hfull : (by' (el l i)).take j = by' (el l i) := List.take_of_length_le (by rw [by_length]; omega)
      rw [hfull] at h3
      refine hout k x3 (by omega) ?_
      rw [h3, take_el hi]
      simp [line]

set_option maxRecDepth 8000 in
theorem outer_loop (l : List ByteArray) (hl : l.length ≤ 50) (ht : total l ≤ 2000) : ∀ (N i k : Nat) (x3 : ByteArray), l.length - i < N → 2100 * N + 3000 ≤ k → i ≤ l.length →
    by' x3 = [123] ++ (l.take i).flatMap line → (∀ s ∈ l.take i, ¬ s.toList = []) → laws_FnBlock.l0 k l x3 i = some true := by
  intro N
  induction N with
  | zero => intro i k x3 h; omega
  | succ N ih =>
    intro i k x3 hN hk hi h3 hne
    obtain ⟨k, rfl⟩ : ∃ m, k = m + 1 := ⟨k - 1, by omega⟩
    have hsz : x3.size = 1 + ((l.take i).flatMap line).length := by rw [← by_length, h3]; simp; omega
    have hll := lines_length (l.take i)
    have htl := total_take_le l i
    rw [List.length_take] at hll
    simp only [laws_FnBlock.l0]
    by_cases hlt : i < l.length
    · rw [if_pos (by omega), if_pos (by omega)]
      by_cases he : (el l i).toList = []
      · rw [if_pos he]
      · rw [if_neg he, if_pos (by omega)]
        have hs := size_le_total (el_mem hlt)
        refine inner_loop l hl ht i (2100 * N + 3000) (el l i).size hlt rfl (fun k' y hk' hy => ?_) ((el l i).size + 1) 0 k _ (by omega) (by omega) (by omega) ?_
        · refine ih (i + 1) k' y (by omega) hk' (by omega) hy ?_
          intro s hs
          rw [take_el hlt] at hs
          rcases List.mem_append.1 hs with hs | hs
          · exact hne s hs
          · rw [List.mem_singleton.1 hs]; exact he
        · simp only [by', ByteArray.data_append, Array.toList_append]
          have : x3.data.toList = [123] ++ (l.take i).flatMap line := h3
          rw [this]
          simp [ind]
    · have hi' : i = l.length := by omega
      subst hi'
      rw [List.take_length] at h3 hne hll hsz
      rw [if_neg (by omega)]
      have hb := block_tells l hl ht hne k (by omega)
      by_cases h0 : l = []
      · subst h0
        rw [if_neg (by simp), hb]
        simp only [Option.bind_some]
        rw [if_pos (by omega)]
        congr 1
        rw [Go.ByteArray.toList_eq, Go.ByteArray.toList_eq]
        have : x3.data.toList = [123] := h3
        simp [ByteArray.data_append, this]
      · have hpos : 0 < l.length := List.length_pos_iff.2 h0
        rw [if_pos (by omega), if_pos (by omega), hb]
        simp only [Option.bind_some]
        have e1 : (x3 ++ (⟨#[10]⟩ : ByteArray)).size = x3.size + 1 := by rw [ByteArray.size_append]; rfl
        rw [if_pos (by rw [e1]; omega)]
        congr 1
        rw [Go.ByteArray.toList_eq, Go.ByteArray.toList_eq, if_neg h0]
        have : x3.data.toList = [123] ++ l.flatMap line := h3
        simp [ByteArray.data_append, this]

/-- The law. -/
theorem law_tells (l : List ByteArray) : ∃ k, laws_FnBlock.f k l = some true := by
  obtain ⟨b, hb, hbt⟩ := fits_tell l
  refine ⟨2100 * l.length + 20000, ?_⟩
  unfold laws_FnBlock.f
  rw [hb _ (by omega)]
  simp only [Option.bind_some]
  cases b with
  | false => rw [if_neg (by simp)]
  | true =>
    rw [if_pos rfl]
    obtain ⟨hl, hs⟩ := hbt rfl
    rw [pieces_tell l (by omega) hs _ (by omega)]
    simp only [Option.bind_some]
    by_cases hp : l.length ≤ 50 ∧ total l ≤ 2000
    · rw [decide_eq_true hp, if_pos rfl]
      exact outer_loop l hp.1 hp.2 (l.length + 1) 0 _ _ (by omega) (by omega) (by omega) rfl (by simp)
    · rw [decide_eq_false hp, if_neg (by simp)]

theorem law_walk (A0 : Option Addr) (c0 : Nat) (l0 : List ByteArray) (w : World) (hr0 : Kd.C Kd.string w A0 l0.length l0) (hc0 : l0.length ≤ c0) (hm0 : l0.length ≤ maxLen) :
    Calls Try.prog 3 #[.slice A0 l0.length c0] w fun e w' => e = .returned (.bool true) ∧ Below w.heap.size w w' := by
  obtain ⟨k, hk⟩ := law_tells l0
  exact laws_FnBlock.calls k A0 c0 l0 true w hr0 hc0 hk

end Go.Proofs.Ytknbpibjjhcdiac.PFnBlock.R
