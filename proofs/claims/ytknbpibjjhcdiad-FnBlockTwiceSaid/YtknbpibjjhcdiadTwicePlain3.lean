/-
  The value of a block string, in lines of its own and set in by 0 to 20 blanks, is the value again: for every text of at most 2000 bytes.
  This text: what the package's blockStringValue makes of a text.
-/
import Derived.Test.YtknbpibjjhcdiadTwicePlain2
namespace Go.Proofs.Ytknbpibjjhcdiad.PFnBlockTwice.Z.L
open Go.RowKit Go.Proofs.YtknbpibjjhcdiadW.PrintWords Go.Proofs.YtknbpibjjhcdiadW.PrintLast Go.Proofs.YtknbpibjjhcdiadW.PrintMore
set_option linter.unusedVariables false
set_option linter.unusedSimpArgs false

theorem flatten_le {ls : List (List UInt8)} (h : ∀ x ∈ ls, x.length ≤ 100000) : ls.flatten.length ≤ 100000 * ls.length := by
  induction ls with
  | nil => simp
  | cons a r ih =>
    rw [List.flatten_cons, List.length_append, List.length_cons]
    have h1 := h a (by simp)
    have h2 := ih (fun x hx => h x (List.mem_cons_of_mem _ hx))
    omega
theorem jn_length (ls : List (List UInt8)) : (jn ls).length ≤ ls.length + ls.flatten.length := by
  cases ls with
  | nil => simp [jn_nil]
  | cons x r =>
    rw [jn_cons, List.length_append, List.flatten_cons, List.length_append, List.length_cons]
    have : (r.flatMap (fun y => 10 :: y)).length = r.length + r.flatten.length := by
      induction r with
      | nil => simp
      | cons a r ih => simp only [List.flatMap_cons, List.length_append, List.length_cons, List.flatten_cons, ih]; omega
    omega
theorem join_given (ls : List (List UInt8)) (ok : Ok ls) : strings_Join.f (ls.map mk) (⟨#[10]⟩ : ByteArray) = some (mk (jn ls)) := by
  obtain ⟨hl, hx⟩ := ok
  have e : joinBytes (ls.map mk) (⟨#[10]⟩ : ByteArray) = jn ls := by
    unfold joinBytes jn
    congr 1
    rw [List.map_map]
    have : ((fun s : ByteArray => s.data.toList) ∘ mk) = id := by funext l; exact by_mk l
    rw [this, List.map_id]
  unfold strings_Join.f
  rw [e, if_pos]
  · rfl
  · refine ⟨by rw [List.length_map]; omega, ?_⟩
    have h1 := jn_length ls
    have h2 := flatten_le hx
    omega

theorem impl_l3 : ∀ (n : Nat) (ls : List (List UInt8)) (k : Nat), Ok ls → ls.length < n → n ≤ k → lexer_blockStringValue.l3 k (ls.map mk) = some (mk (jn (rtrim ls))) := by
  intro n
  induction n with
  | zero => intro ls k _ h; omega
  | succ n ih =>
    intro ls k ok hn hk
    obtain ⟨k, rfl⟩ : ∃ m, k = m + 1 := ⟨k - 1, by omega⟩
    rcases snoc_or ls with rfl | ⟨r, x, rfl⟩
    · simp only [lexer_blockStringValue.l3]
      rw [if_neg (by simp), join_given [] ok]
      rfl
    · have hl := ok.1
      have hx := ok.2 x (by simp)
      have W := last_mk (ls := r) (x := x) hl
      have hlen : ((r ++ [x]).map mk).length = r.length + 1 := by simp
      simp only [lexer_blockStringValue.l3, W.out, rd_last, Int.toNat_natCast, take_last]
      rw [if_pos (by omega), if_pos (by omega), if_pos (by omega), blank_given x hx]
      simp only [Option.bind_some]
      cases hb : blank x with
      | true =>
        rw [if_pos rfl, if_pos (by omega), ih r k ok.init (by simp at hn; omega) (by omega), rtrim_snoc_yes hb]
      | false =>
        rw [if_neg (by simp), join_given _ ok, rtrim_snoc_no hb]
        rfl

theorem impl_l2 : ∀ (n : Nat) (ls : List (List UInt8)) (k : Nat), Ok ls → ls.length < n → n + 100010 ≤ k → lexer_blockStringValue.l2 k (ls.map mk) = some (mk (jn (rtrim (ls.dropWhile blank)))) := by
  intro n
  induction n with
  | zero => intro ls k _ h; omega
  | succ n ih =>
    intro ls k ok hn hk
    obtain ⟨k, rfl⟩ : ∃ m, k = m + 1 := ⟨k - 1, by omega⟩
    have hj6 : ∀ ls, Ok ls → lexer_blockStringValue.j6 k (ls.map mk) = some (mk (jn (rtrim ls))) := by
      intro ls ok
      obtain ⟨k, rfl⟩ : ∃ m, k = m + 1 := ⟨k - 1, by omega⟩
      have := ok.1
      simp only [lexer_blockStringValue.j6]
      exact impl_l3 (ls.length + 1) ls k ok (by omega) (by omega)
    cases ls with
    | nil =>
      simp only [lexer_blockStringValue.l2]
      rw [if_neg (by simp), hj6 [] ok]
      rfl
    | cons x r =>
      have hx := ok.2 x (by simp)
      have hpos : ((((x :: r).map mk).length : Nat) : Int) > 0 := by simp only [List.map_cons, List.length_cons]; omega
      simp only [lexer_blockStringValue.l2, rd_mk0]
      rw [if_pos hpos, if_pos hpos, blank_given x hx]
      simp only [Option.bind_some]
      cases hb : blank x with
      | true =>
        rw [if_pos rfl, if_pos (by omega)]
        have e : ((x :: r).map mk).drop (Int.toNat 1) = r.map mk := rfl
        rw [e, ih r k ok.tail (by simp at hn; omega) (by omega)]
        simp [List.dropWhile_cons, hb]
      | false =>
        rw [if_neg (by simp), hj6 _ ok]
        simp [List.dropWhile_cons, hb]

theorem impl_j4 (ls : List (List UInt8)) (ok : Ok ls) (k : Nat) (hk : 300000 ≤ k) : lexer_blockStringValue.j4 k (ls.map mk) = some (mk (jn (rtrim (ls.dropWhile blank)))) := by
  obtain ⟨k, rfl⟩ : ∃ m, k = m + 1 := ⟨k - 1, by omega⟩
  have := ok.1
  simp only [lexer_blockStringValue.j4]
  exact impl_l2 (ls.length + 1) ls k ok (by omega) (by omega)

/-- A line without the white space in front, if it has so much. -/
def cut (c : Nat) (x : List UInt8) : List UInt8 := if x.length < c then x else x.drop c
theorem cut_length (c : Nat) (x : List UInt8) : (cut c x).length ≤ x.length := by
  unfold cut
  split
  · omega
  · rw [List.length_drop]; omega
theorem Ok.cut {ls : List (List UInt8)} (ok : Ok ls) (c : Nat) : Ok (ls.map (cut c)) := ⟨by rw [List.length_map]; exact ok.1, fun x hx => by
  obtain ⟨y, hy, rfl⟩ := List.mem_map.1 hx
  exact Nat.le_trans (cut_length c y) (ok.2 y hy)⟩

theorem impl_l1 (ls : List (List UInt8)) (ok : Ok ls) (c : Nat) : ∀ (n i k : Nat), ls.length - i < n → n + 300000 ≤ k → i ≤ ls.length →
    lexer_blockStringValue.l1 k (((ls.take i).map (cut c) ++ ls.drop i).map mk) c (ls.length : Int) i = some (mk (jn (rtrim ((ls.map (cut c)).dropWhile blank)))) := by
  have hl := ok.1
  intro n
  induction n with
  | zero => intro i k h; omega
  | succ n ih =>
    intro i k hn hk hi
    obtain ⟨k, rfl⟩ : ∃ m, k = m + 1 := ⟨k - 1, by omega⟩
    have W1 := w64s i (by omega)
    have hlen : (((ls.take i).map (cut c) ++ ls.drop i).map mk).length = ls.length := by simp; omega
    simp only [lexer_blockStringValue.l1, W1.out, hlen]
    by_cases hlt : i < ls.length
    · have hrd : rdOf ByteArray.empty (((ls.take i).map (cut c) ++ ls.drop i).map mk) (i : Int) = mk ls[i] := by
        rw [rd_mk (by simp; omega)]
        congr 1
        rw [List.getElem_append_right (by simp; omega)]
        simp [Nat.min_eq_left (Nat.le_of_lt hlt)]
      have h1 := ih (i + 1) k (by omega) (by omega) (by omega)
      simp only [hrd, mk_size]
      rw [if_pos (by omega), if_pos (by omega), if_pos (by omega)]
      by_cases hc : (c : Int) > (ls[i].length : Int)
      · rw [if_pos hc]
        have e : (ls.take i).map (cut c) ++ ls.drop i = (ls.take (i + 1)).map (cut c) ++ ls.drop (i + 1) := by
          rw [List.drop_eq_getElem_cons hlt, List.take_succ_eq_append_getElem hlt]
          have : cut c ls[i] = ls[i] := by unfold cut; rw [if_pos (by omega)]
          simp only [List.map_append, List.map_cons, List.map_nil, this, List.append_assoc, List.cons_append, List.nil_append]
        rw [e]
        exact h1
      · rw [if_neg hc, if_pos (by omega), if_pos (by omega)]
        have hset : (((ls.take i).map (cut c) ++ ls.drop i).map mk).set ((i : Int)).toNat ((mk ls[i]).extract ((c : Int)).toNat ls[i].length) = ((ls.take (i + 1)).map (cut c) ++ ls.drop (i + 1)).map mk := by
          have : cut c ls[i] = ls[i].drop c := by unfold cut; rw [if_neg (by omega)]
          rw [Int.toNat_natCast, Int.toNat_natCast, extract_mk, by_mk, List.take_of_length_le (Nat.le_refl _), ← List.map_set, ← this]
          congr 1
          exact set_step ls (cut c) i hlt
        rw [hset]
        exact h1
    · rw [if_neg (by omega)]
      have hi' : i = ls.length := by omega
      subst hi'
      rw [List.take_length, List.drop_length, List.append_nil]
      exact impl_j4 _ (ok.cut c) k (by omega)

/-- What is done to the lines with what they have in front. -/
def cuts (c : Int) (ls : List (List UInt8)) : List (List UInt8) := if c > 0 then ls.map (cut c.toNat) else ls
theorem impl_j2 (ls : List (List UInt8)) (ok : Ok ls) (c : Int) (k : Nat) (hk : 500000 ≤ k) : lexer_blockStringValue.j2 k (ls.map mk) c = some (mk (jn (rtrim ((cuts c ls).dropWhile blank)))) := by
  obtain ⟨k, rfl⟩ : ∃ m, k = m + 1 := ⟨k - 1, by omega⟩
  have hl := ok.1
  simp only [lexer_blockStringValue.j2, List.length_map]
  unfold cuts
  by_cases h : c > 0
  · rw [if_pos h, if_pos h]
    have := impl_l1 ls ok c.toNat (ls.length + 1) 0 k (by omega) (by omega) (by omega)
    rw [Int.toNat_of_nonneg (by omega)] at this
    simpa using this
  · rw [if_neg h, if_neg h]
    exact impl_j4 ls ok k (by omega)

theorem impl_l0 (ls : List (List UInt8)) (ok : Ok ls) : ∀ (n i k : Nat) (acc : Int), ls.length - i < n → 2 * n + 500000 ≤ k → i ≤ ls.length →
    lexer_blockStringValue.l0 k (ls.map mk) acc i = some (mk (jn (rtrim ((cuts (ci acc (ls.drop i)) ls).dropWhile blank)))) := by
  obtain ⟨hl, hx⟩ := id ok
  intro n
  induction n with
  | zero => intro i k acc h; omega
  | succ n ih =>
    intro i k acc hn hk hi
    obtain ⟨k, rfl⟩ : ∃ m, k = m + 2 := ⟨k - 2, by omega⟩
    have W1 := w64s i (by omega)
    simp only [lexer_blockStringValue.l0, lexer_blockStringValue.j1, W1.out, List.length_map]
    by_cases hlt : i < ls.length
    · rw [if_pos (by omega), if_pos (by omega), rd_mk hlt]
      have hxi := hx _ (List.getElem_mem hlt)
      have hd : ls.drop i = ls[i] :: ls.drop (i + 1) := List.drop_eq_getElem_cons hlt
      rw [lead_given _ hxi]
      simp only [Option.bind_some, mk_size]
      have h1 := fun acc => ih (i + 1) k acc (by omega) (by omega) (by omega)
      have hyes : lead ls[i] < ls[i].length → (acc = -1 ∨ (lead ls[i] : Int) < acc) → (if ((lead ls[i] : Nat) : Int) = 0 then lexer_blockStringValue.j2 k (ls.map mk) (lead ls[i] : Nat) else lexer_blockStringValue.l0 k (ls.map mk) (lead ls[i] : Nat) ((i + 1 : Nat) : Int)) = some (mk (jn (rtrim ((cuts (ci acc (ls.drop i)) ls).dropWhile blank)))) := by
        intro a b
        have e : ci acc (ls.drop i) = if lead ls[i] = 0 then 0 else ci (lead ls[i] : Nat) (ls.drop (i + 1)) := by
          rw [hd]
          exact if_pos ⟨a, b⟩
        rw [e]
        by_cases z : lead ls[i] = 0
        · rw [if_pos (by omega), if_pos z, impl_j2 ls ok _ k (by omega), z]
          rfl
        · rw [if_neg (by omega), if_neg z, h1]
      have hno : ¬ (lead ls[i] < ls[i].length ∧ (acc = -1 ∨ (lead ls[i] : Int) < acc)) → lexer_blockStringValue.l0 k (ls.map mk) acc ((i + 1 : Nat) : Int) = some (mk (jn (rtrim ((cuts (ci acc (ls.drop i)) ls).dropWhile blank)))) := by
        intro a
        rw [hd]
        unfold ci
        rw [if_neg a, h1]
      by_cases a : lead ls[i] < ls[i].length
      · rw [if_pos (by omega)]
        by_cases b : acc = -1
        · rw [if_pos b, if_pos trivial]
          exact hyes a (.inl b)
        · rw [if_neg b]
          by_cases c : (lead ls[i] : Int) < acc
          · rw [if_pos (by simpa using c)]
            exact hyes a (.inr c)
          · rw [if_neg (by simpa using c)]
            exact hno (fun h => by rcases h.2 with h | h <;> contradiction)
      · rw [if_neg (by omega), if_neg (by simp)]
        exact hno (fun h => a h.1)
    · rw [if_neg (by omega), List.drop_of_length_le (by omega)]
      rw [impl_j2 ls ok _ _ (by omega)]
      rfl

/-- What the package makes of a block string. -/
def bvI (l : List UInt8) : List UInt8 :=
  match sp false [] l with
  | [] => []
  | x :: r => jn (rtrim ((cuts (ci (-1) r) (x :: r)).dropWhile blank))
theorem impl_tells (s : ByteArray) (hs : s.size ≤ 100000) (k : Nat) (hk : 800000 ≤ k) : impl_BlockValue.f k s = some (mk (bvI (by' s))) := by
  unfold impl_BlockValue.f lexer_BlockValue.f lexer_blockStringValue.f bvI
  rw [lexer_zzLines_tells s hs k (by omega)]
  simp only [Option.bind_some]
  have ok := sp_ok (l := by' s) (by rw [by_length]; exact hs)
  cases e : sp false [] (by' s) with
  | nil => exact absurd e (sp_ne _ _ _)
  | cons x r =>
    rw [e] at ok
    have hl := ok.1
    have := impl_l0 (x :: r) ok ((x :: r).length + 1) 1 k (-1) (by omega) (by omega) (by simp)
    have e1 : ((1 : Nat) : Int) = 1 := rfl
    rw [e1] at this
    rw [this]
    rfl

end Go.Proofs.Ytknbpibjjhcdiad.PFnBlockTwice.Z.L
