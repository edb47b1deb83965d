/-
  Whether a text is UTF-8, and whether a text is among others: the reference's tests come to an answer. Plain facts.
-/
import Derived.Test.YtdcfbgpcpjjjaaaGreatCb
import Derived.Test.YtdcfbgpcpjjjaaaGreatPFnFieldValueOfx1
namespace Go.Proofs.YtdcfbgpcpjjjaaaGreat.PFnFieldValueOf
open Go.RowKit Go.Proofs.YtdcfbgpcpjjjaaaGreatW.PrintWords Go.Proofs.YtdcfbgpcpjjjaaaGreatW.PrintLast Go.Proofs.YtdcfbgpcpjjjaaaGreatW.PrintMore
set_option linter.unusedVariables false
set_option linter.unusedSimpArgs false
theorem w64 {x : Int} (h : -1000000 ≤ x) (h' : x ≤ 1000000) : wrap64 x = x := by unfold wrap64; omega
theorem w64s (i : Nat) (h : i ≤ 900000) : Aside0 (wrap64 ((i : Int) + 1) = ((i + 1 : Nat) : Int)) := ⟨by rw [w64 (by omega) (by omega)]; omega⟩
theorem point_l0 (s : ByteArray) (hs : s.size ≤ 100000) (i n : Nat) (x7 : Int) (hi : i + n ≤ s.size) (hn : n ≤ 4) : ∀ (m j : Nat) (x4 : Int), i + n - j ≤ m → j ≤ i + n →
    ∃ (c : Int) (n' : Nat), spec_Point.l0 (m + 1) s i x4 n x7 j = some (c, (n' : Int)) ∧ (n' = 0 ∨ n' = n) := by
  have W : Aside0 (wrap64 ((i : Int) + (n : Int)) = ((i + n : Nat) : Int)) := ⟨by rw [w64 (by omega) (by omega)]; omega⟩
  intro m
  induction m with
  | zero =>
    intro j x4 hm hj
    have hj' : j = i + n := by omega
    subst hj'
    simp only [spec_Point.l0, W.out]
    rw [if_neg (by omega)]
    split
    · exact ⟨0, 0, rfl, .inl rfl⟩
    · split
      · exact ⟨0, 0, rfl, .inl rfl⟩
      · split
        · split
          · exact ⟨0, 0, rfl, .inl rfl⟩
          · exact ⟨x4, n, rfl, .inr rfl⟩
        · exact ⟨x4, n, rfl, .inr rfl⟩
  | succ m ih =>
    intro j x4 hm hj
    rw [spec_Point.l0]
    simp only [W.out]
    by_cases hlt : j < i + n
    · rw [if_pos (by omega), if_pos (by omega), if_pos (by omega)]
      have W1 := w64s j (by omega)
      split
      · exact ⟨0, 0, rfl, .inl rfl⟩
      · split
        · exact ⟨0, 0, rfl, .inl rfl⟩
        · rw [W1.out]
          exact ih (j + 1) _ (by omega) (by omega)
    · rw [if_neg (by omega)]
      split
      · exact ⟨0, 0, rfl, .inl rfl⟩
      · split
        · exact ⟨0, 0, rfl, .inl rfl⟩
        · split
          · split
            · exact ⟨0, 0, rfl, .inl rfl⟩
            · exact ⟨x4, n, rfl, .inr rfl⟩
          · exact ⟨x4, n, rfl, .inr rfl⟩
theorem point_j2 (s : ByteArray) (hs : s.size ≤ 100000) (i n : Nat) (x4 x7 : Int) (hi : i < s.size) (hn : n ≤ 4) :
    ∃ (c : Int) (n' : Nat), spec_Point.j2 10 s i x4 n x7 = some (c, (n' : Int)) ∧ (n' = 0 ∨ 1 ≤ n' ∧ n' ≤ 4 ∧ i + n' ≤ s.size) := by
  have W : Aside0 (wrap64 ((i : Int) + (n : Int)) = ((i + n : Nat) : Int)) := ⟨by rw [w64 (by omega) (by omega)]; omega⟩
  have W1 := w64s i (by omega)
  simp only [spec_Point.j2, spec_Point.j3, W.out, W1.out]
  by_cases h0 : n = 0
  · subst h0
    exact ⟨0, 0, by simp, .inl rfl⟩
  · rw [if_neg (by omega)]
    by_cases hb : ((i + n : Nat) : Int) > (s.size : Int)
    · rw [if_pos (by simpa using hb)]
      exact ⟨0, 0, rfl, .inl rfl⟩
    · rw [if_neg (by simpa using hb)]
      obtain ⟨c, n', h, hn'⟩ := point_l0 s hs i n x7 (by omega) hn 7 (i + 1) x4 (by omega) (by omega)
      refine ⟨c, n', h, ?_⟩
      rcases hn' with e | e
      · exact .inl e
      · exact .inr (by omega)
theorem wrap_bt (s : ByteArray) (i : Int) : wrap64 (bt s i) = bt s i := by
  have := bt_range s i
  exact w64 (by omega) (by omega)
theorem point_tells (s : ByteArray) (hs : s.size ≤ 100000) (i : Nat) (hi : i < s.size) :
    ∃ (c : Int) (n : Nat), (∀ k, 12 ≤ k → spec_Point.f k s i = some (c, (n : Int))) ∧ (n = 0 ∨ 1 ≤ n ∧ n ≤ 4 ∧ i + n ≤ s.size) := by
  have key : ∃ (c : Int) (n : Nat), spec_Point.f 12 s i = some (c, (n : Int)) ∧ (n = 0 ∨ 1 ≤ n ∧ n ≤ 4 ∧ i + n ≤ s.size) := by
    have up : ∀ (k : Nat) (x4 x5 x7 : Int) (r : Int × Int), spec_Point.j2 k s i x4 x5 x7 = some r → spec_Point.j2 (k + 1) s i x4 x5 x7 = some r := fun k x4 x5 x7 r h => (spec_Point.mono_l k).1 _ _ _ _ _ r h
    obtain ⟨b, hb⟩ : ∃ b, b = bt s (i : Int) := ⟨_, rfl⟩
    have hr := bt_range s (i : Int)
    simp only [spec_Point.f, wrap_bt]
    rw [if_pos (by omega), if_pos (by omega), ← hb]
    rw [← hb] at hr
    split
    · exact ⟨b, 1, rfl, .inr (by omega)⟩
    · have hj1 : ∀ q : Bool, ∃ (c : Int) (n : Nat), spec_Point.j1 11 s i 0 0 b 0 q = some (c, (n : Int)) ∧ (n = 0 ∨ 1 ≤ n ∧ n ≤ 4 ∧ i + n ≤ s.size) := by
        intro q
        simp only [spec_Point.j1]
        split
        · exact point_j2 s hs i 3 _ _ hi (by omega)
        · split
          · split
            · exact point_j2 s hs i 4 _ _ hi (by omega)
            · exact point_j2 s hs i 0 _ _ hi (by omega)
          · exact point_j2 s hs i 0 _ _ hi (by omega)
      have hj0 : ∀ q : Bool, ∃ (c : Int) (n : Nat), spec_Point.j0 12 s i 0 0 b 0 q = some (c, (n : Int)) ∧ (n = 0 ∨ 1 ≤ n ∧ n ≤ 4 ∧ i + n ≤ s.size) := by
        intro q
        simp only [spec_Point.j0]
        split
        · obtain ⟨c, n, h, hn⟩ := point_j2 s hs i 2 (wrap64 (b - 192)) 128 hi (by omega)
          exact ⟨c, n, up 10 _ _ _ _ h, hn⟩
        · split
          · exact hj1 _
          · exact hj1 _
      split
      · exact hj0 _
      · exact hj0 _
  obtain ⟨c, n, h, hn⟩ := key
  exact ⟨c, n, fun k hk => at_rounds (g := fun k => spec_Point.f k s i) (fun k => spec_Point.mono _ _ k) hk h, hn⟩

theorem utf8_loop (s : ByteArray) (hs : s.size ≤ 100000) : ∀ (n i : Nat), s.size - i < n → i ≤ s.size → ∃ b : Bool, spec_UTF8.l0 (n + 20) s i = some b := by
  intro n
  induction n with
  | zero => intro i h; omega
  | succ n ih =>
    intro i hn hi
    rw [show n + 1 + 20 = (n + 20) + 1 by omega]
    simp only [spec_UTF8.l0]
    by_cases hlt : i < s.size
    · obtain ⟨c, m, hp, hm⟩ := point_tells s hs i hlt
      rw [if_pos (by omega), hp _ (by omega)]
      simp only [Option.bind_some]
      rcases hm with h0 | ⟨h1, h4, hle⟩
      · subst h0
        exact ⟨false, by simp⟩
      · rw [if_neg (by omega)]
        have W : wrap64 ((i : Int) + (m : Int)) = ((i + m : Nat) : Int) := by rw [w64 (by omega) (by omega)]; omega
        rw [W]
        obtain ⟨b, hb⟩ := ih (i + m) (by omega) hle
        exact ⟨b, hb⟩
    · rw [if_neg (by omega)]
      exact ⟨true, rfl⟩
theorem utf8_tells (s : ByteArray) (hs : s.size ≤ 100000) : ∃ b : Bool, ∀ k, 100100 ≤ k → spec_UTF8.f k s = some b := by
  obtain ⟨b, hb⟩ := utf8_loop s hs (s.size + 1) 0 (by omega) (by omega)
  exact ⟨b, fun k hk => at_rounds (g := fun k => spec_UTF8.f k s) (fun k => spec_UTF8.mono _ k) (show s.size + 1 + 20 ≤ k by omega) (by simpa [spec_UTF8.f] using hb)⟩


/-- What UTF8 tells of a text. -/
def utf (s : ByteArray) : Bool := spec_UTF8.f 100100 s == some true
theorem utf8_any (s : ByteArray) (hs : s.size ≤ 100000) (w : World) : Calls Tryz.prog 6 #[.string s] w fun e w' => e = .returned (.bool (utf s)) ∧ Drawn0 w w' := by
  obtain ⟨b, hb⟩ := utf8_tells s hs
  have h1 := hb 100100 (Nat.le_refl _)
  have h2 : utf s = b := by unfold utf; rw [h1]; cases b <;> rfl
  rw [h2]
  exact spec_UTF8.calls 100100 s b w h1
theorem among_l0 (l : List ByteArray) (a : ByteArray) (hl : l.length ≤ 100000) : ∀ (n i : Nat), l.length - i < n → i ≤ l.length → spec_among.l0 n l a i = some ((l.drop i).any fun y => y.toList == a.toList) := by
  intro n
  induction n with
  | zero => intro i h; omega
  | succ n ih =>
    intro i hn hi
    simp only [spec_among.l0]
    by_cases hlt : i < l.length
    · rw [if_pos (by omega), if_pos (by omega)]
      have hr : rdOf ByteArray.empty l (i : Int) = l[i] := by simp [rdOf, List.getD, hlt]
      rw [hr, List.drop_eq_getElem_cons hlt, List.any_cons]
      by_cases he : l[i].toList = a.toList
      · rw [if_pos he]
        simp [he]
      · rw [if_neg he]
        have W : wrap64 ((i : Int) + 1) = ((i + 1 : Nat) : Int) := by rw [w64 (by omega) (by omega)]; omega
        rw [W, ih (i + 1) (by omega) (by omega)]
        simp [he]
    · rw [if_neg (by omega), List.drop_eq_nil_of_le (by omega)]
      rfl
/-- What among tells. -/
def amid (l : List ByteArray) (a : ByteArray) : Bool := l.any fun y => y.toList == a.toList
theorem among_any (A : Option Addr) (c : Nat) (l : List ByteArray) (a : ByteArray) (w : World) (h : Kd.C Kd.string w A l.length l) (hc : l.length ≤ c) (hl : l.length ≤ 100000) :
    Calls Tryz.prog 33 #[.slice A l.length c, .string a] w fun e w' => e = .returned (.bool (amid l a)) ∧ Drawn0 w w' := by
  refine spec_among.calls (l.length + 1) A c l a (amid l a) w h hc ?_
  have := among_l0 l a hl (l.length + 1) 0 (by omega) (by omega)
  rw [List.drop_zero] at this
  exact this
end Go.Proofs.YtdcfbgpcpjjjaaaGreat.PFnFieldValueOf
