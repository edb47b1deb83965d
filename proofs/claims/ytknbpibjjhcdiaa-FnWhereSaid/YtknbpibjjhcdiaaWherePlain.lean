/-
  The line and the column of a place in a text of ASCII, as the package tells them, are those of the reference: for every text of at most 2000 bytes and every place in it.
  This text: the plain law (lists and numbers alone) of FnWhere.
-/
import Derived.Test.YtknbpibjjhcdiaaPFnWherex1
namespace Go.Proofs.Ytknbpibjjhcdiaa.PFnWhere
open Go.RowKit Go.Proofs.YtknbpibjjhcdiaaW.PrintWords Go.Proofs.YtknbpibjjhcdiaaW.PrintLast Go.Proofs.YtknbpibjjhcdiaaW.PrintMore
set_option linter.unusedVariables false
set_option linter.unusedSimpArgs false

/-- The byte at a place. -/
abbrev bb (s : ByteArray) (i : Nat) : Int := bt s (i : Int)
/-- The end of the line end that stands at a place. -/
def fin (s : ByteArray) (i : Nat) : Nat := if bb s i = 13 ∧ i + 1 < s.size ∧ bb s (i + 1) = 10 then i + 2 else i + 1
/-- Where the line ends from a place on begin and end. -/
def ends (s : ByteArray) (n i : Nat) : List (List Int) :=
  match n with
  | 0 => []
  | n + 1 => if i < s.size then (if bb s i = 13 ∨ bb s i = 10 then [(i : Int), (fin s i : Int)] :: ends s n (fin s i) else ends s n (i + 1)) else []
/-- What GetLocation's loop makes of line ends. -/
def loc (place : Int) : List (List Int) → Int → Int → Int × Int
  | [], line, col => (line, col)
  | m :: ms, line, col => if rd m 0 < place then loc place ms (line + 1) (place + 1 - rd m 1) else (line, col)

theorem fin_bd (s : ByteArray) (i : Nat) : i + 1 ≤ fin s i ∧ fin s i ≤ i + 2 ∧ (i < s.size → fin s i ≤ s.size) := by
  unfold fin; split <;> omega
theorem w64 {x : Int} (h : -1000000 ≤ x) (h' : x ≤ 1000000) : wrap64 x = x := by unfold wrap64; omega

theorem ends_len (s : ByteArray) : ∀ n i : Nat, i ≤ s.size → (ends s n i).length ≤ s.size - i := by
  intro n
  induction n with
  | zero => intro i _; simp [ends]
  | succ n ih =>
    intro i hi
    unfold ends
    have hf := fin_bd s i
    split
    · split
      · have := ih (fin s i) (by omega)
        simp; omega
      · have := ih (i + 1) (by omega)
        omega
    · simp

set_option maxHeartbeats 400000 in
theorem lines_tell (s : ByteArray) (hs : s.size ≤ 2000) : ∀ (n i k : Nat) (acc : List (List Int)), s.size - i < n → i ≤ s.size → acc.length ≤ i → 2 * n ≤ k →
    location_zzLineEnds.l0 k (bytesOf s) acc i = some (acc ++ ends s n i) := by
  intro n
  induction n with
  | zero => intro i k acc h; omega
  | succ n ih =>
    intro i k acc hn hi hacc hk
    obtain ⟨k, rfl⟩ : ∃ m, k = m + 2 := ⟨k - 2, by omega⟩
    have hl : (bytesOf s).length = s.size := bytesOf_length s
    have hf := fin_bd s i
    by_cases hlt : i < s.size
    · have w1 : Aside0 (wrap64 ((i : Int) + 1) = ((i + 1 : Nat) : Int)) := ⟨by rw [w64 (by omega) (by omega)]; omega⟩
      have w2 : Aside0 (wrap64 ((i : Int) + 2) = ((i + 2 : Nat) : Int)) := ⟨by rw [w64 (by omega) (by omega)]; omega⟩
      have w3 : Aside0 (wrap64 (((i + 1 : Nat) : Int) + 1) = ((i + 2 : Nat) : Int)) := ⟨by rw [w64 (by omega) (by omega)]; omega⟩
      have h1 : ∀ a : Nat, fin s i = a → (bb s i = 13 ∨ bb s i = 10) → location_zzLineEnds.l0 k (bytesOf s) (acc ++ [[(i : Int), (a : Int)]]) (a : Nat) = some (acc ++ ends s (n + 1) i) := by
        intro a ha hb
        subst ha
        rw [ih (fin s i) k _ (by omega) (by omega) (by simp; omega) (by omega)]
        conv => rhs; unfold ends
        rw [if_pos hlt, if_pos hb]
        simp
      have h2 : ¬(bb s i = 13 ∨ bb s i = 10) → location_zzLineEnds.l0 k (bytesOf s) acc ((i + 1 : Nat) : Int) = some (acc ++ ends s (n + 1) i) := by
        intro hb
        rw [ih (i + 1) k acc (by omega) (by omega) (by omega) (by omega)]
        conv => rhs; unfold ends
        rw [if_pos hlt, if_neg hb]
      have hj : ∀ b : Bool, (b = true → bb s i = 13 ∧ i + 1 < s.size ∧ bb s (i + 1) = 10) → (b = false → ¬(bb s i = 13 ∧ i + 1 < s.size ∧ bb s (i + 1) = 10)) → location_zzLineEnds.j1 (k + 1) (bytesOf s) acc i b = some (acc ++ ends s (n + 1) i) := by
        intro b hb1 hb2
        simp only [location_zzLineEnds.j1, hl, rd_bytesOf, w1.out, w2.out, w3.out]
        cases b with
        | true =>
          have hb := hb1 rfl
          rw [if_pos rfl, if_pos (by omega)]
          exact h1 (i + 2) (by unfold fin; rw [if_pos hb]) (.inl hb.1)
        | false =>
          have hb := hb2 rfl
          have he : fin s i = i + 1 := by unfold fin; rw [if_neg hb]
          rw [if_neg (by simp), if_pos (by omega), if_pos (by omega)]
          by_cases h13 : bb s i = 13
          · rw [if_pos h13, if_pos (by omega)]
            exact h1 (i + 1) he (.inl h13)
          · rw [if_neg h13]
            by_cases h10 : bb s i = 10
            · rw [if_pos h10, if_pos (by omega)]
              exact h1 (i + 1) he (.inr h10)
            · rw [if_neg h10]
              exact h2 (by simp [h13, h10])
      simp only [location_zzLineEnds.l0, hl, rd_bytesOf, w1.out]
      rw [if_pos (by omega), if_pos (by omega)]
      by_cases h13 : bb s i = 13
      · rw [if_pos h13]
        by_cases hn1 : i + 1 < s.size
        · rw [if_pos (by omega), if_pos (by omega)]
          exact hj _ (fun h => ⟨h13, hn1, beq_iff_eq.1 h⟩) (fun h hh => beq_eq_false_iff_ne.1 h hh.2.2)
        · rw [if_neg (by omega)]
          exact hj _ (fun h => by cases h) (fun _ hh => by omega)
      · rw [if_neg h13]
        exact hj _ (fun h => by cases h) (fun _ hh => h13 hh.1)
    · simp only [location_zzLineEnds.l0, hl]
      rw [if_neg (by omega)]
      unfold ends
      rw [if_neg hlt]
      simp

/-- At a place and behind it nothing is told of line ends. -/
theorem loc_stop (s : ByteArray) (place : Int) (line col : Int) : ∀ n i : Nat, place ≤ i → loc place (ends s n i) line col = (line, col) := by
  intro n
  induction n with
  | zero => intro i _; simp [ends, loc]
  | succ n ih =>
    intro i hi
    unfold ends
    split
    · split
      · have : ¬ (i : Int) < place := by omega
        simp [loc, rd, this]
      · exact ih (i + 1) (by omega)
    · simp [loc]

set_option maxHeartbeats 400000 in
theorem where_tells (s : ByteArray) (hs : s.size ≤ 2000) (place : Int) (hp0 : 0 ≤ place) (hp : place ≤ s.size) : ∀ (n i k : Nat) (line col from_ : Int), s.size - i < n → i ≤ s.size → 1 ≤ line → line ≤ i + 1 → 0 ≤ from_ → from_ ≤ i → col = place - from_ + 1 → 3 * n ≤ k →
    spec_Where.l0 k s place line from_ i = some (loc place (ends s n i) line col) := by
  intro n
  induction n with
  | zero => intro i k line col from_ h; omega
  | succ n ih =>
    intro i k line col from_ hn hi hl1 hl2 hf1 hf2 hc hk
    obtain ⟨k, rfl⟩ : ∃ m, k = m + 3 := ⟨k - 3, by omega⟩
    have hf := fin_bd s i
    by_cases hlt : (i : Int) < place
    · have hlt' : i < s.size := by omega
      have w1 : Aside0 (wrap64 ((i : Int) + 1) = ((i + 1 : Nat) : Int)) := ⟨by rw [w64 (by omega) (by omega)]; omega⟩
      have w3 : Aside0 (wrap64 (((i + 1 : Nat) : Int) + 1) = ((i + 2 : Nat) : Int)) := ⟨by rw [w64 (by omega) (by omega)]; omega⟩
      have w4 : Aside0 (wrap64 (line + 1) = line + 1) := ⟨w64 (by omega) (by omega)⟩
      have h1 : ∀ a : Nat, fin s i = a → (bb s i = 13 ∨ bb s i = 10) → spec_Where.l0 k s place (line + 1) (a : Nat) (a : Nat) = some (loc place (ends s (n + 1) i) line col) := by
        intro a ha hb
        subst ha
        rw [ih (fin s i) k (line + 1) (place + 1 - (fin s i : Nat)) _ (by omega) (by omega) (by omega) (by omega) (by omega) (by omega) (by omega) (by omega)]
        conv => rhs; unfold ends
        rw [if_pos hlt', if_pos hb]
        simp [loc, rd, hlt]
      have h2 : ¬(bb s i = 13 ∨ bb s i = 10) → spec_Where.l0 k s place line from_ ((i + 1 : Nat) : Int) = some (loc place (ends s (n + 1) i) line col) := by
        intro hb
        rw [ih (i + 1) k line col from_ (by omega) (by omega) (by omega) (by omega) (by omega) (by omega) (by omega) (by omega)]
        conv => rhs; unfold ends
        rw [if_pos hlt', if_neg hb]
      have hj : ∀ b : Bool, (b = true ↔ (bb s i = 13 ∨ bb s i = 10)) → spec_Where.j2 (k + 1) s place line from_ i b = some (loc place (ends s (n + 1) i) line col) := by
        intro b hb
        simp only [spec_Where.j2, w1.out, w3.out, w4.out]
        by_cases hb' : bb s i = 13 ∨ bb s i = 10
        · rw [if_pos (hb.2 hb'), if_pos (by omega), if_pos (by omega)]
          by_cases h13 : bb s i = 13
          · rw [if_pos h13]
            by_cases hn1 : i + 1 < s.size
            · rw [if_pos (by omega), if_pos (by omega)]
              by_cases h10 : bb s (i + 1) = 10
              · rw [if_pos h10]
                exact h1 (i + 2) (by unfold fin; rw [if_pos ⟨h13, hn1, h10⟩]) hb'
              · rw [if_neg h10]
                exact h1 (i + 1) (by unfold fin; rw [if_neg (fun h => h10 h.2.2)]) hb'
            · rw [if_neg (by omega)]
              exact h1 (i + 1) (by unfold fin; rw [if_neg (fun h => hn1 h.2.1)]) hb'
          · rw [if_neg h13]
            exact h1 (i + 1) (by unfold fin; rw [if_neg (fun h => h13 h.1)]) hb'
        · rw [if_neg (fun h => hb' (hb.1 h))]
          exact h2 hb'
      simp only [spec_Where.l0, spec_Where.j1]
      rw [if_pos (by omega), if_pos (by simpa using hlt), if_pos (by omega), if_pos (by omega)]
      by_cases h10 : bb s i = 10
      · rw [if_pos h10]
        exact hj true (by simp [h10])
      · rw [if_neg h10]
        exact hj _ (by simp [h10])
    · have w : wrap64 (wrap64 (place - from_) + 1) = col := by rw [w64 (x := place - from_) (by omega) (by omega), w64 (by omega) (by omega)]; omega
      rw [loc_stop s place line col (n + 1) i (by omega)]
      simp only [spec_Where.l0, spec_Where.j1]
      by_cases h : i < s.size
      · rw [if_pos (by omega), if_neg (by simpa using hlt), w]
      · rw [if_neg (by omega), if_neg (by simp), w]


theorem ends_in (s : ByteArray) : ∀ n i : Nat, ∀ m ∈ ends s n i, m.length = 2 ∧ 0 ≤ rd m 0 ∧ rd m 0 < rd m 1 ∧ rd m 1 ≤ s.size := by
  intro n
  induction n with
  | zero => intro i m hm; simp [ends] at hm
  | succ n ih =>
    intro i m hm
    have hf := fin_bd s i
    unfold ends at hm
    split at hm
    · split at hm
      · rcases List.mem_cons.1 hm with rfl | hm
        · have h0 : rd [(i : Int), (fin s i : Int)] 0 = i := rfl
          have h1 : rd [(i : Int), (fin s i : Int)] 1 = fin s i := rfl
          rw [h0, h1]
          refine ⟨rfl, by omega, by omega, ?_⟩
          have := hf.2.2 ‹_›
          omega
        · exact ih _ m hm
      · exact ih _ m hm
    · cases hm

theorem ascii_tells (s : ByteArray) (hs : s.size ≤ 2000) : ∀ n i : Nat, s.size - i < n → ∃ b, laws_ascii9.l0 n s i = some b := by
  intro n
  induction n with
  | zero => intro i h; omega
  | succ n ih =>
    intro i hn
    by_cases hlt : i < s.size
    · simp only [laws_ascii9.l0]
      rw [if_pos (by omega), if_pos (by omega)]
      split
      · exact ⟨_, rfl⟩
      · have w1 : Aside0 (wrap64 ((i : Int) + 1) = ((i + 1 : Nat) : Int)) := ⟨by rw [w64 (by omega) (by omega)]; omega⟩
        rw [w1.out]
        exact ih (i + 1) (by omega)
    · simp only [laws_ascii9.l0]
      rw [if_neg (by omega)]
      exact ⟨_, rfl⟩

/-- What the law asks of its parts. -/
theorem parts_tell (s : ByteArray) (hs : s.size ≤ 2000) (place : Int) (hp0 : 0 ≤ place) (hp : place ≤ s.size) :
    ∃ k r line col, location_zzLineEnds.f k (bytesOf s) = some r ∧ r.length ≤ 2000 ∧ (∀ m ∈ r, m.length = 2 ∧ 0 ≤ rd m 0 ∧ rd m 0 < rd m 1 ∧ rd m 1 ≤ (bytesOf s).length) ∧ loc place r 1 (place + 1) = (line, col) ∧ spec_Where.f k s place = some (line, col) := by
  refine ⟨3 * (s.size + 1), ends s (s.size + 1) 0, (loc place (ends s (s.size + 1) 0) 1 (place + 1)).1, (loc place (ends s (s.size + 1) 0) 1 (place + 1)).2, ?_, ?_, ?_, rfl, ?_⟩
  · have := lines_tell s hs (s.size + 1) 0 (3 * (s.size + 1)) [] (by omega) (by omega) (by simp) (by omega)
    simpa [location_zzLineEnds.f] using this
  · have := ends_len s (s.size + 1) 0 (by omega); omega
  · rw [bytesOf_length]; exact ends_in s (s.size + 1) 0
  · have := where_tells s hs place hp0 hp (s.size + 1) 0 (3 * (s.size + 1)) 1 (place + 1) 0 (by omega) (by omega) (by omega) (by omega) (by omega) (by omega) (by omega) (by omega)
    simpa [spec_Where.f] using this

end Go.Proofs.Ytknbpibjjhcdiaa.PFnWhere
