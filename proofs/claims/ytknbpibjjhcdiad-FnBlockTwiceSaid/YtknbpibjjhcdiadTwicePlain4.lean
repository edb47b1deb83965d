/-
  The value of a block string, in lines of its own and set in by 0 to 20 blanks, is the value again: for every text of at most 2000 bytes.
  This text: the reference's tests of a text (UTF-8, a block string that is sure) come to an answer; the law.
-/
import Derived.Test.YtknbpibjjhcdiadTwicePlain3
namespace Go.Proofs.Ytknbpibjjhcdiad.PFnBlockTwice.Z.L
open Go.RowKit Go.Proofs.YtknbpibjjhcdiadW.PrintWords Go.Proofs.YtknbpibjjhcdiadW.PrintLast Go.Proofs.YtknbpibjjhcdiadW.PrintMore
set_option linter.unusedVariables false
set_option linter.unusedSimpArgs false

/-! ### Code points -/
theorem point_l0 (s : ByteArray) (hs : s.size ≤ 100000) (i n : Nat) (x7 : Int) (hi : i + n ≤ s.size) (hn : n ≤ 4) : ∀ (m j : Nat) (x4 : Int), i + n - j ≤ m → j ≤ i + n →
    ∃ (c : Int) (n' : Nat), spec_Point.l0 (m + 1) s i x4 n x7 j = some (c, (n' : Int)) ∧ (n' = 0 ∨ n' = n) := by
  have W : Aside0 (wrap64 ((i : Int) + (n : Int)) = ((i + n : Nat) : Int)) := ⟨by rw [w64 (by omega) (by omega)]; omega⟩
  intro m
  induction m with
  | zero =>
    intro j x4 hm hj
    have hj' : j = i + n := by omega
    subst hj'
    simp only [spec_Point.l0, W.out]
    rw [if_neg (by omega)]
    split
    · exact ⟨0, 0, rfl, .inl rfl⟩
    · split
      · exact ⟨0, 0, rfl, .inl rfl⟩
      · split
        · split
          · exact ⟨0, 0, rfl, .inl rfl⟩
          · exact ⟨x4, n, rfl, .inr rfl⟩
        · exact ⟨x4, n, rfl, .inr rfl⟩
  | succ m ih =>
    intro j x4 hm hj
    rw [spec_Point.l0]
    simp only [W.out]
    by_cases hlt : j < i + n
    · rw [if_pos (by omega), if_pos (by omega), if_pos (by omega)]
      have W1 := w64s j (by omega)
      split
      · exact ⟨0, 0, rfl, .inl rfl⟩
      · split
        · exact ⟨0, 0, rfl, .inl rfl⟩
        · rw [W1.out]
          exact ih (j + 1) _ (by omega) (by omega)
    · rw [if_neg (by omega)]
      split
      · exact ⟨0, 0, rfl, .inl rfl⟩
      · split
        · exact ⟨0, 0, rfl, .inl rfl⟩
        · split
          · split
            · exact ⟨0, 0, rfl, .inl rfl⟩
            · exact ⟨x4, n, rfl, .inr rfl⟩
          · exact ⟨x4, n, rfl, .inr rfl⟩
theorem point_j2 (s : ByteArray) (hs : s.size ≤ 100000) (i n : Nat) (x4 x7 : Int) (hi : i < s.size) (hn : n ≤ 4) :
    ∃ (c : Int) (n' : Nat), spec_Point.j2 10 s i x4 n x7 = some (c, (n' : Int)) ∧ (n' = 0 ∨ 1 ≤ n' ∧ n' ≤ 4 ∧ i + n' ≤ s.size) := by
  have W : Aside0 (wrap64 ((i : Int) + (n : Int)) = ((i + n : Nat) : Int)) := ⟨by rw [w64 (by omega) (by omega)]; omega⟩
  have W1 := w64s i (by omega)
  simp only [spec_Point.j2, spec_Point.j3, W.out, W1.out]
  by_cases h0 : n = 0
  · subst h0
    exact ⟨0, 0, by simp, .inl rfl⟩
  · rw [if_neg (by omega)]
    by_cases hb : ((i + n : Nat) : Int) > (s.size : Int)
    · rw [if_pos (by simpa using hb)]
      exact ⟨0, 0, rfl, .inl rfl⟩
    · rw [if_neg (by simpa using hb)]
      obtain ⟨c, n', h, hn'⟩ := point_l0 s hs i n x7 (by omega) hn 7 (i + 1) x4 (by omega) (by omega)
      refine ⟨c, n', h, ?_⟩
      rcases hn' with e | e
      · exact .inl e
      · exact .inr (by omega)
theorem wrap_bt (s : ByteArray) (i : Int) : wrap64 (bt s i) = bt s i := by
  have := bt_range s i
  exact w64 (by omega) (by omega)
theorem point_tells (s : ByteArray) (hs : s.size ≤ 100000) (i : Nat) (hi : i < s.size) :
    ∃ (c : Int) (n : Nat), (∀ k, 12 ≤ k → spec_Point.f k s i = some (c, (n : Int))) ∧ (n = 0 ∨ 1 ≤ n ∧ n ≤ 4 ∧ i + n ≤ s.size) := by
  have key : ∃ (c : Int) (n : Nat), spec_Point.f 12 s i = some (c, (n : Int)) ∧ (n = 0 ∨ 1 ≤ n ∧ n ≤ 4 ∧ i + n ≤ s.size) := by
    have up : ∀ (k : Nat) (x4 x5 x7 : Int) (r : Int × Int), spec_Point.j2 k s i x4 x5 x7 = some r → spec_Point.j2 (k + 1) s i x4 x5 x7 = some r := fun k x4 x5 x7 r h => (spec_Point.mono_l k).1 _ _ _ _ _ r h
    obtain ⟨b, hb⟩ : ∃ b, b = bt s (i : Int) := ⟨_, rfl⟩
    have hr := bt_range s (i : Int)
    simp only [spec_Point.f, wrap_bt]
    rw [if_pos (by omega), if_pos (by omega), ← hb]
    rw [← hb] at hr
    split
    · exact ⟨b, 1, rfl, .inr (by omega)⟩
    · have hj1 : ∀ q : Bool, ∃ (c : Int) (n : Nat), spec_Point.j1 11 s i 0 0 b 0 q = some (c, (n : Int)) ∧ (n = 0 ∨ 1 ≤ n ∧ n ≤ 4 ∧ i + n ≤ s.size) := by
        intro q
        simp only [spec_Point.j1]
        split
        · exact point_j2 s hs i 3 _ _ hi (by omega)
        · split
          · split
            · exact point_j2 s hs i 4 _ _ hi (by omega)
            · exact point_j2 s hs i 0 _ _ hi (by omega)
          · exact point_j2 s hs i 0 _ _ hi (by omega)
      have hj0 : ∀ q : Bool, ∃ (c : Int) (n : Nat), spec_Point.j0 12 s i 0 0 b 0 q = some (c, (n : Int)) ∧ (n = 0 ∨ 1 ≤ n ∧ n ≤ 4 ∧ i + n ≤ s.size) := by
        intro q
        simp only [spec_Point.j0]
        split
        · obtain ⟨c, n, h, hn⟩ := point_j2 s hs i 2 (wrap64 (b - 192)) 128 hi (by omega)
          exact ⟨c, n, up 10 _ _ _ _ h, hn⟩
        · split
          · exact hj1 _
          · exact hj1 _
      split
      · exact hj0 _
      · exact hj0 _
  obtain ⟨c, n, h, hn⟩ := key
  exact ⟨c, n, fun k hk => at_rounds (g := fun k => spec_Point.f k s i) (fun k => spec_Point.mono _ _ k) hk h, hn⟩

theorem utf8_loop (s : ByteArray) (hs : s.size ≤ 100000) : ∀ (n i : Nat), s.size - i < n → i ≤ s.size → ∃ b : Bool, spec_UTF8.l0 (n + 20) s i = some b := by
  intro n
  induction n with
  | zero => intro i h; omega
  | succ n ih =>
    intro i hn hi
    rw [show n + 1 + 20 = (n + 20) + 1 by omega]
    simp only [spec_UTF8.l0]
    by_cases hlt : i < s.size
    · obtain ⟨c, m, hp, hm⟩ := point_tells s hs i hlt
      rw [if_pos (by omega), hp _ (by omega)]
      simp only [Option.bind_some]
      rcases hm with h0 | ⟨h1, h4, hle⟩
      · subst h0
        exact ⟨false, by simp⟩
      · rw [if_neg (by omega)]
        have W : wrap64 ((i : Int) + (m : Int)) = ((i + m : Nat) : Int) := by rw [w64 (by omega) (by omega)]; omega
        rw [W]
        obtain ⟨b, hb⟩ := ih (i + m) (by omega) hle
        exact ⟨b, hb⟩
    · rw [if_neg (by omega)]
      exact ⟨true, rfl⟩
theorem utf8_tells (s : ByteArray) (hs : s.size ≤ 100000) : ∃ b : Bool, ∀ k, 100100 ≤ k → spec_UTF8.f k s = some b := by
  obtain ⟨b, hb⟩ := utf8_loop s hs (s.size + 1) 0 (by omega) (by omega)
  exact ⟨b, fun k hk => at_rounds (g := fun k => spec_UTF8.f k s) (fun k => spec_UTF8.mono _ k) (show s.size + 1 + 20 ≤ k by omega) (by simpa [spec_UTF8.f] using hb)⟩

/-! ### A block string that is sure -/
theorem plain_l0 (ls : List (List UInt8)) (ok : Ok ls) (c : Int) : ∀ (n i k : Nat), ls.length - i < n → n + 100001 ≤ k → i ≤ ls.length → ∃ b, spec_plainBlock.l0 k (ls.map mk) c i = some b := by
  obtain ⟨hl, hx⟩ := ok
  intro n
  induction n with
  | zero => intro i k h; omega
  | succ n ih =>
    intro i k hn hk hi
    obtain ⟨k, rfl⟩ : ∃ m, k = m + 1 := ⟨k - 1, by omega⟩
    have W1 := w64s i (by omega)
    simp only [spec_plainBlock.l0, W1.out, List.length_map]
    by_cases hlt : i < ls.length
    · rw [if_pos (by omega), if_pos (by omega), rd_mk hlt, leading_tells _ (hx _ (List.getElem_mem hlt)) k (by omega)]
      simp only [Option.bind_some]
      have h1 := ih (i + 1) k (by omega) (by omega) (by omega)
      split
      · split
        · split
          · exact ⟨_, rfl⟩
          · exact h1
        · exact h1
      · exact h1
    · rw [if_neg (by omega)]
      exact ⟨_, rfl⟩
theorem sure_tells (s : ByteArray) (hs : s.size ≤ 100000) (k : Nat) (hk : 800000 ≤ k) : ∃ b, spec_BlockSure.f k s = some b := by
  unfold spec_BlockSure.f spec_plainBlock.f
  rw [spec_Lines_tells s hs k (by omega)]
  simp only [Option.bind_some]
  have ok := sp_ok (l := by' s) (by rw [by_length]; exact hs)
  cases e : sp false [] (by' s) with
  | nil => exact absurd e (sp_ne _ _ _)
  | cons x r =>
    rw [e] at ok
    have hl := ok.1
    obtain ⟨k, rfl⟩ : ∃ m, k = m + 1 := ⟨k - 1, by omega⟩
    have hj : ∀ c b, ∃ q, spec_plainBlock.j0 (k + 1) ((x :: r).map mk) c b = some q := by
      intro c b
      simp only [spec_plainBlock.j0]
      split
      · exact ⟨_, rfl⟩
      · exact plain_l0 (x :: r) ok c ((x :: r).length + 1) 1 k (by omega) (by omega) (by simp)
    rw [common_tells x r ok _ (by omega)]
    simp only [Option.bind_some]

    split
    · rw [rd_mk0, leading_tells x (ok.2 x (by simp)) _ (by omega)]
      simp only [Option.bind_some]
      obtain ⟨q, hq⟩ := hj (cs (-1) r) (decide (((lead x : Nat) : Int) < ((mk x).size : Int)))
      have hpos : (0 : Int) < ((((x :: r).map mk).length : Nat) : Int) := by simp only [List.map_cons, List.length_cons]; omega
      exact ⟨q, by rw [hq, if_pos hpos]; rfl⟩
    · obtain ⟨q, hq⟩ := hj (cs (-1) r) false
      exact ⟨q, by rw [hq]; rfl⟩

end Go.Proofs.Ytknbpibjjhcdiad.PFnBlockTwice.Z.L
