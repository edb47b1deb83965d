/-
  The value of a block string, in lines of its own and set in by 0 to 20 blanks, is the value again: for every text of at most 2000 bytes.
  This text: plain facts on bytes, lines and white space (no program but the printed functions).
-/
import Derived.Test.YtknbpibjjhcdiadLFnBlockTwicex1
namespace Go.Proofs.Ytknbpibjjhcdiad.PFnBlockTwice.Z.L
open Go.RowKit Go.Proofs.YtknbpibjjhcdiadW.PrintWords Go.Proofs.YtknbpibjjhcdiadW.PrintLast Go.Proofs.YtknbpibjjhcdiadW.PrintMore
set_option linter.unusedVariables false
set_option linter.unusedSimpArgs false

theorem w64 {x : Int} (h : -4611686018427387904 ≤ x) (h' : x ≤ 4611686018427387904) : wrap64 x = x := by unfold wrap64; omega
theorem w64s (i : Nat) (h : i ≤ 1000000) : Aside0 (wrap64 ((i : Int) + 1) = ((i + 1 : Nat) : Int)) := ⟨by rw [w64 (by omega) (by omega)]; omega⟩
/-- A text's bytes; a text out of bytes. -/
abbrev by' (s : ByteArray) : List UInt8 := s.data.toList
def mk (l : List UInt8) : ByteArray := ⟨l.toArray⟩
theorem by_mk (l : List UInt8) : by' (mk l) = l := by simp [mk]
theorem mk_by (s : ByteArray) : mk (by' s) = s := by cases s; simp [mk]
theorem mk_size (l : List UInt8) : (mk l).size = l.length := by simp [mk, ByteArray.size]
theorem by_length (s : ByteArray) : (by' s).length = s.size := by unfold by'; rw [Array.length_toList]; rfl
theorem ba_ext {a b : ByteArray} (h : by' a = by' b) : a = b := ByteArray.ext (Array.toList_inj.1 h)
theorem bt_by {s : ByteArray} {i : Nat} (h : i < s.size) : ∃ c : UInt8, (by' s)[i]? = some c ∧ bt s (i : Int) = (c.toNat : Int) := by
  refine ⟨s[i], ?_, ?_⟩
  · rw [List.getElem?_eq_getElem (by rw [by_length]; exact h)]
    rfl
  · unfold bt
    rw [Int.toNat_natCast, dif_pos h]
theorem num_is {c d : UInt8} {x : Int} (h : x = (c.toNat : Int)) : x = (d.toNat : Int) ↔ c = d := by
  constructor
  · intro hx
    apply UInt8.toNat_inj.1
    omega
  · rintro rfl
    exact h
theorem num10 {c : UInt8} {x : Int} (h : x = (c.toNat : Int)) : x = 10 ↔ c = 10 := num_is (d := 10) h
theorem num13 {c : UInt8} {x : Int} (h : x = (c.toNat : Int)) : x = 13 ↔ c = 13 := num_is (d := 13) h
theorem num32 {c : UInt8} {x : Int} (h : x = (c.toNat : Int)) : x = 32 ↔ c = 32 := num_is (d := 32) h
theorem num9 {c : UInt8} {x : Int} (h : x = (c.toNat : Int)) : x = 9 ↔ c = 9 := num_is (d := 9) h
theorem take_at {l : List UInt8} {i : Nat} {c : UInt8} (h : l[i]? = some c) : l.take (i + 1) = l.take i ++ [c] := by
  obtain ⟨hl, rfl⟩ := List.getElem?_eq_some_iff.1 h
  exact List.take_succ_eq_append_getElem hl
theorem drop_at {l : List UInt8} {i : Nat} {c : UInt8} (h : l[i]? = some c) : l.drop i = c :: l.drop (i + 1) := by
  obtain ⟨hl, rfl⟩ := List.getElem?_eq_some_iff.1 h
  exact List.drop_eq_getElem_cons hl
theorem extract_mk (s : ByteArray) (a b : Nat) : s.extract a b = mk (((by' s).take b).drop a) := by
  apply ba_ext
  rw [by_mk]
  unfold by'
  rw [ByteArray.data_extract, Array.toList_extract, List.extract_eq_take_drop, List.drop_take]

/-- Lines: what stands between line feeds, carriage returns, and both together (cr: a carriage return has just been). -/
def sp (cr : Bool) (cur : List UInt8) : List UInt8 → List (List UInt8)
  | [] => [cur]
  | c :: r => if c = 10 then (if cr then sp false cur r else cur :: sp false [] r) else if c = 13 then cur :: sp true [] r else sp false (cur ++ [c]) r
theorem sp_true {cur : List UInt8} {l : List UInt8} (h : l[0]? ≠ some 10) : sp true cur l = sp false cur l := by
  cases l with
  | nil => rfl
  | cons c r =>
    have hc : c ≠ 10 := fun e => h (by rw [e]; rfl)
    simp [sp, hc]
theorem drop_head (l : List UInt8) (i : Nat) : (l.drop i)[0]? = l[i]? := by rw [List.getElem?_drop]; rfl
theorem drop_cons {l : List UInt8} {a i : Nat} {c : UInt8} (h : l[i]? = some c) (ha : a ≤ i) : (l.take (i + 1)).drop a = (l.take i).drop a ++ [c] := by
  rw [take_at h, List.drop_append_of_le_length]
  have := (List.getElem?_eq_some_iff.1 h).1
  rw [List.length_take]; omega

theorem spec_Lines_loop (s : ByteArray) (hs : s.size ≤ 100000) : ∀ (n a i k : Nat) (acc : List ByteArray), s.size - i < n → 2 * n ≤ k → a ≤ i → i ≤ s.size → acc.length ≤ i →
    spec_Lines.l0 k s acc a i = some (acc ++ (sp false (((by' s).take i).drop a) ((by' s).drop i)).map mk) := by
  intro n
  induction n with
  | zero => intro a i k acc h; omega
  | succ n ih =>
    intro a i k acc hn hk ha hi hacc
    obtain ⟨k, rfl⟩ : ∃ m, k = m + 2 := ⟨k - 2, by omega⟩
    have W1 := w64s i (by omega)
    have W2 := w64s (i + 1) (by omega)
    by_cases hlt : i < s.size
    · obtain ⟨c, hc, hb⟩ := bt_by hlt
      have HB := Aside0.mk hb
      clear hb
      have hno : ¬ (c = 10 ∨ c = 13) → spec_Lines.j1 (k + 1) s acc a i true = some (acc ++ (sp false (((by' s).take i).drop a) ((by' s).drop i)).map mk) := by
        intro h
        have h10 : c ≠ 10 := fun e => h (.inl e)
        have h13 : c ≠ 13 := fun e => h (.inr e)
        simp only [spec_Lines.j1, W1.out]
        rw [if_pos trivial, ih a (i + 1) k acc (by omega) (by omega) (by omega) (by omega) (by omega), drop_at hc, drop_cons hc ha]
        simp [sp, h10, h13]
      have hyes : (c = 10 ∨ c = 13) → spec_Lines.j1 (k + 1) s acc a i false = some (acc ++ (sp false (((by' s).take i).drop a) ((by' s).drop i)).map mk) := by
        intro h
        simp only [spec_Lines.j1, W1.out, W2.out, Int.toNat_natCast]
        rw [if_neg (by simp), if_pos (by omega), if_pos (by omega), if_pos (by omega), if_pos (by omega)]
        simp only [Option.bind_some]
        rw [if_pos (by omega), if_pos (by omega), extract_mk]
        have hstep : sp true [] ((by' s).drop (i + 1)) = sp false [] ((by' s).drop (i + 1)) → spec_Lines.l0 k s (acc ++ [mk (((by' s).take i).drop a)]) ((i + 1 : Nat) : Int) ((i + 1 : Nat) : Int) = some (acc ++ (sp false (((by' s).take i).drop a) ((by' s).drop i)).map mk) := by
          intro e
          rw [ih (i + 1) (i + 1) k _ (by omega) (by omega) (by omega) (by omega) (by simp; omega), drop_at hc]
          have e0 : ((by' s).take (i + 1)).drop (i + 1) = [] := List.drop_of_length_le (by rw [List.length_take]; omega)
          rw [e0]
          rcases h with h | h
          · simp [sp, h]
          · simp [sp, h, e]
        by_cases h13 : bt s (i : Int) = 13
        · have hc13 := (num13 HB.out).1 h13
          rw [if_pos h13]
          by_cases hn1 : i + 1 < s.size
          · obtain ⟨d, hd, hbd⟩ := bt_by hn1
            have HD := Aside0.mk hbd
            clear hbd
            rw [if_pos (by omega), if_pos (by omega)]
            by_cases h10 : bt s ((i + 1 : Nat) : Int) = 10
            · have hd10 := (num10 HD.out).1 h10
              rw [if_pos h10, ih (i + 2) (i + 2) k _ (by omega) (by omega) (by omega) (by omega) (by simp; omega), drop_at hc, drop_at hd]
              have e0 : ((by' s).take (i + 2)).drop (i + 2) = [] := List.drop_of_length_le (by rw [List.length_take]; omega)
              rw [e0]
              simp [sp, hc13, hd10]
            · have hd10 : d ≠ 10 := fun e => h10 ((num10 HD.out).2 e)
              rw [if_neg h10]
              exact hstep (sp_true (by rw [drop_head, hd]; intro e; injection e with e; exact hd10 e))
          · rw [if_neg (by omega)]
            exact hstep (by rw [List.drop_of_length_le (by rw [by_length]; omega)]; rfl)
        · rw [if_neg h13]
          have hc10 : c = 10 := by
            rcases h with h | h
            · exact h
            · exact absurd ((num13 HB.out).2 h) h13
          rw [ih (i + 1) (i + 1) k _ (by omega) (by omega) (by omega) (by omega) (by simp; omega), drop_at hc]
          have e0 : ((by' s).take (i + 1)).drop (i + 1) = [] := List.drop_of_length_le (by rw [List.length_take]; omega)
          rw [e0]
          simp [sp, hc10]
      have hj : ∀ b : Bool, (b = true ↔ ¬ (c = 10 ∨ c = 13)) → spec_Lines.j1 (k + 1) s acc a i b = some (acc ++ (sp false (((by' s).take i).drop a) ((by' s).drop i)).map mk) := by
        intro b hb
        cases b with
        | true => exact hno (hb.1 rfl)
        | false => exact hyes (Classical.not_not.1 fun h => by simpa using hb.2 h)
      simp only [spec_Lines.l0]
      rw [if_pos (by omega), if_pos (by omega)]
      by_cases h1 : bt s (i : Int) = 10
      · rw [if_pos h1]
        exact hj false (by simp [(num10 HB.out).1 h1])
      · rw [if_neg h1]
        have hc1 : c ≠ 10 := fun e => h1 ((num10 HB.out).2 e)
        refine hj _ ?_
        rw [bne_iff_ne]
        constructor
        · intro h hh
          rcases hh with hh | hh
          · first | exact hc1 hh | exact h ((num10 HB.out).2 hh)
          · first | exact hc1 hh | exact h ((num13 HB.out).2 hh)
        · intro h hh
          exact h (by first | exact .inl ((num10 HB.out).1 hh) | exact .inr ((num13 HB.out).1 hh))
    · have hi' : i = s.size := by omega
      simp only [spec_Lines.l0, Int.toNat_natCast]
      rw [if_neg (by omega), if_pos (by omega), if_pos (by omega), if_pos (by omega), extract_mk]
      rw [List.drop_of_length_le (l := by' s) (by rw [by_length]; omega), ← hi']
      simp [sp]

theorem spec_Lines_tells (s : ByteArray) (hs : s.size ≤ 100000) (k : Nat) (hk : 2 * s.size + 2 ≤ k) : spec_Lines.f k s = some ((sp false [] (by' s)).map mk) := by
  have := spec_Lines_loop s hs (s.size + 1) 0 0 k [] (by omega) (by omega) (by omega) (by omega) (by simp)
  simpa [spec_Lines.f] using this

theorem lexer_zzLines_loop (s : ByteArray) (hs : s.size ≤ 100000) : ∀ (n a i k : Nat) (acc : List ByteArray), s.size - i < n → 2 * n ≤ k → a ≤ i → i ≤ s.size → acc.length ≤ i →
    lexer_zzLines.l0 k s acc a i = some (acc ++ (sp false (((by' s).take i).drop a) ((by' s).drop i)).map mk) := by
  intro n
  induction n with
  | zero => intro a i k acc h; omega
  | succ n ih =>
    intro a i k acc hn hk ha hi hacc
    obtain ⟨k, rfl⟩ : ∃ m, k = m + 2 := ⟨k - 2, by omega⟩
    have W1 := w64s i (by omega)
    have W2 := w64s (i + 1) (by omega)
    by_cases hlt : i < s.size
    · obtain ⟨c, hc, hb⟩ := bt_by hlt
      have HB := Aside0.mk hb
      clear hb
      have hno : ¬ (c = 10 ∨ c = 13) → lexer_zzLines.j1 (k + 1) s acc a i true = some (acc ++ (sp false (((by' s).take i).drop a) ((by' s).drop i)).map mk) := by
        intro h
        have h10 : c ≠ 10 := fun e => h (.inl e)
        have h13 : c ≠ 13 := fun e => h (.inr e)
        simp only [lexer_zzLines.j1, W1.out]
        rw [if_pos trivial, ih a (i + 1) k acc (by omega) (by omega) (by omega) (by omega) (by omega), drop_at hc, drop_cons hc ha]
        simp [sp, h10, h13]
      have hyes : (c = 10 ∨ c = 13) → lexer_zzLines.j1 (k + 1) s acc a i false = some (acc ++ (sp false (((by' s).take i).drop a) ((by' s).drop i)).map mk) := by
        intro h
        simp only [lexer_zzLines.j1, W1.out, W2.out, Int.toNat_natCast]
        rw [if_neg (by simp), if_pos (by omega), if_pos (by omega), if_pos (by omega), if_pos (by omega)]
        simp only [Option.bind_some]
        rw [if_pos (by omega), if_pos (by omega), extract_mk]
        have hstep : sp true [] ((by' s).drop (i + 1)) = sp false [] ((by' s).drop (i + 1)) → lexer_zzLines.l0 k s (acc ++ [mk (((by' s).take i).drop a)]) ((i + 1 : Nat) : Int) ((i + 1 : Nat) : Int) = some (acc ++ (sp false (((by' s).take i).drop a) ((by' s).drop i)).map mk) := by
          intro e
          rw [ih (i + 1) (i + 1) k _ (by omega) (by omega) (by omega) (by omega) (by simp; omega), drop_at hc]
          have e0 : ((by' s).take (i + 1)).drop (i + 1) = [] := List.drop_of_length_le (by rw [List.length_take]; omega)
          rw [e0]
          rcases h with h | h
          · simp [sp, h]
          · simp [sp, h, e]
        by_cases h13 : bt s (i : Int) = 13
        · have hc13 := (num13 HB.out).1 h13
          rw [if_pos h13]
          by_cases hn1 : i + 1 < s.size
          · obtain ⟨d, hd, hbd⟩ := bt_by hn1
            have HD := Aside0.mk hbd
            clear hbd
            rw [if_pos (by omega), if_pos (by omega)]
            by_cases h10 : bt s ((i + 1 : Nat) : Int) = 10
            · have hd10 := (num10 HD.out).1 h10
              rw [if_pos h10, ih (i + 2) (i + 2) k _ (by omega) (by omega) (by omega) (by omega) (by simp; omega), drop_at hc, drop_at hd]
              have e0 : ((by' s).take (i + 2)).drop (i + 2) = [] := List.drop_of_length_le (by rw [List.length_take]; omega)
              rw [e0]
              simp [sp, hc13, hd10]
            · have hd10 : d ≠ 10 := fun e => h10 ((num10 HD.out).2 e)
              rw [if_neg h10]
              exact hstep (sp_true (by rw [drop_head, hd]; intro e; injection e with e; exact hd10 e))
          · rw [if_neg (by omega)]
            exact hstep (by rw [List.drop_of_length_le (by rw [by_length]; omega)]; rfl)
        · rw [if_neg h13]
          have hc10 : c = 10 := by
            rcases h with h | h
            · exact h
            · exact absurd ((num13 HB.out).2 h) h13
          rw [ih (i + 1) (i + 1) k _ (by omega) (by omega) (by omega) (by omega) (by simp; omega), drop_at hc]
          have e0 : ((by' s).take (i + 1)).drop (i + 1) = [] := List.drop_of_length_le (by rw [List.length_take]; omega)
          rw [e0]
          simp [sp, hc10]
      have hj : ∀ b : Bool, (b = true ↔ ¬ (c = 10 ∨ c = 13)) → lexer_zzLines.j1 (k + 1) s acc a i b = some (acc ++ (sp false (((by' s).take i).drop a) ((by' s).drop i)).map mk) := by
        intro b hb
        cases b with
        | true => exact hno (hb.1 rfl)
        | false => exact hyes (Classical.not_not.1 fun h => by simpa using hb.2 h)
      simp only [lexer_zzLines.l0]
      rw [if_pos (by omega), if_pos (by omega)]
      by_cases h1 : bt s (i : Int) = 13
      · rw [if_pos h1]
        exact hj false (by simp [(num13 HB.out).1 h1])
      · rw [if_neg h1]
        have hc1 : c ≠ 13 := fun e => h1 ((num13 HB.out).2 e)
        refine hj _ ?_
        rw [bne_iff_ne]
        constructor
        · intro h hh
          rcases hh with hh | hh
          · first | exact hc1 hh | exact h ((num10 HB.out).2 hh)
          · first | exact hc1 hh | exact h ((num13 HB.out).2 hh)
        · intro h hh
          exact h (by first | exact .inl ((num10 HB.out).1 hh) | exact .inr ((num13 HB.out).1 hh))
    · have hi' : i = s.size := by omega
      simp only [lexer_zzLines.l0, Int.toNat_natCast]
      rw [if_neg (by omega), if_pos (by omega), if_pos (by omega), if_pos (by omega), extract_mk]
      rw [List.drop_of_length_le (l := by' s) (by rw [by_length]; omega), ← hi']
      simp [sp]

theorem lexer_zzLines_tells (s : ByteArray) (hs : s.size ≤ 100000) (k : Nat) (hk : 2 * s.size + 2 ≤ k) : lexer_zzLines.f k s = some ((sp false [] (by' s)).map mk) := by
  have := lexer_zzLines_loop s hs (s.size + 1) 0 0 k [] (by omega) (by omega) (by omega) (by omega) (by simp)
  simpa [lexer_zzLines.f] using this

end Go.Proofs.Ytknbpibjjhcdiad.PFnBlockTwice.Z.L
