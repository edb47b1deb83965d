/-
  The value of a block string, in lines of its own and set in by 0 to 20 blanks, is the value again: for every text of at most 2000 bytes.
  This text: what the reference's and the package's functions make of lines.
-/
import Derived.Test.YtknbpibjjhcdiadTwicePlain1
namespace Go.Proofs.Ytknbpibjjhcdiad.PFnBlockTwice.Z.L
open Go.RowKit Go.Proofs.YtknbpibjjhcdiadW.PrintWords Go.Proofs.YtknbpibjjhcdiadW.PrintLast Go.Proofs.YtknbpibjjhcdiadW.PrintMore
set_option linter.unusedVariables false
set_option linter.unusedSimpArgs false

/-- Lines that are looked at. -/
def Ok (ls : List (List UInt8)) : Prop := ls.length ≤ 100001 ∧ ∀ x ∈ ls, x.length ≤ 100000
theorem rd_mk {ls : List (List UInt8)} {i : Nat} (h : i < ls.length) : rdOf ByteArray.empty (ls.map mk) (i : Int) = mk ls[i] := by
  unfold rdOf
  rw [Int.toNat_natCast, List.getD_eq_getElem?_getD, List.getElem?_map, List.getElem?_eq_getElem h]
  rfl
theorem rd_mk0 {x : List UInt8} {r : List (List UInt8)} : rdOf ByteArray.empty ((x :: r).map mk) 0 = mk x := rd_mk (ls := x :: r) (i := 0) (by simp)

theorem leading_loop (s : ByteArray) (hs : s.size ≤ 100000) : ∀ (n i k : Nat), s.size - i < n → n ≤ k → i ≤ s.size → (∀ j c, j < i → (by' s)[j]? = some c → wht c = true) →
    spec_leading.l0 k s i = some ((lead (by' s) : Nat) : Int) := by
  intro n
  induction n with
  | zero => intro i k h; omega
  | succ n ih =>
    intro i k hn hk hi hw
    obtain ⟨k, rfl⟩ : ∃ m, k = m + 1 := ⟨k - 1, by omega⟩
    have W1 := w64s i (by omega)
    simp only [spec_leading.l0, W1.out]
    by_cases hlt : i < s.size
    · obtain ⟨c, hc, hb⟩ := bt_by hlt
      have HB := Aside0.mk hb
      clear hb
      rw [if_pos (by omega), if_pos (by omega)]
      have hgo : wht c = true → spec_leading.l0 k s ((i + 1 : Nat) : Int) = some ((lead (by' s) : Nat) : Int) := fun hw' => ih (i + 1) k (by omega) (by omega) (by omega) (fun j d hj hd => by
        by_cases e : j = i
        · subst e; rw [hc] at hd; injection hd with hd; rw [← hd]; exact hw'
        · exact hw j d (by omega) hd)
      by_cases h1 : bt s (i : Int) = 32
      · rw [if_pos h1]
        exact hgo (by rw [(num32 HB.out).1 h1]; rfl)
      · rw [if_neg h1]
        by_cases h2 : bt s (i : Int) = 9
        · rw [if_pos h2]
          exact hgo (by rw [(num9 HB.out).1 h2]; rfl)
        · rw [if_neg h2]
          have hc32 : c ≠ 32 := fun e => h1 ((num32 HB.out).2 e)
          have hc9 : c ≠ 9 := fun e => h2 ((num9 HB.out).2 e)
          have hwf : wht c = false := by simp [wht, hc32, hc9]
          rw [lead_drop (by' s) i hw (by rw [by_length]; omega), drop_at hc]
          simp [lead, List.takeWhile_cons, hwf]
    · rw [if_neg (by omega), lead_drop (by' s) i hw (by rw [by_length]; omega), List.drop_of_length_le (by rw [by_length]; omega)]
      simp [lead]

theorem leading_tells (x : List UInt8) (hx : x.length ≤ 100000) (k : Nat) (hk : 100001 ≤ k) : spec_leading.f k (mk x) = some ((lead x : Nat) : Int) := by
  have := leading_loop (mk x) (by rw [mk_size]; omega) ((mk x).size + 1) 0 k (by omega) (by rw [mk_size]; omega) (by omega) (fun j c hj => by omega)
  rw [by_mk] at this
  simpa [spec_leading.f] using this
theorem lead_given (x : List UInt8) (hx : x.length ≤ 100000) : lexer_leadingWhitespaceLen.f (mk x) = some ((lead x : Nat) : Int) := by
  unfold lexer_leadingWhitespaceLen.f
  rw [if_pos (by rw [mk_size]; omega)]
  have : (mk x).data.toList = x := by_mk x
  rw [this]

/-- A line of white space alone. -/
def blank (x : List UInt8) : Bool := lead x == x.length
theorem blank_given (x : List UInt8) (hx : x.length ≤ 100000) : lexer_lineIsBlank.f (mk x) = some (blank x) := by
  unfold lexer_lineIsBlank.f
  rw [lead_given x hx]
  simp only [Option.bind_some]
  rw [mk_size]
  congr 1
  unfold blank
  rw [Bool.eq_iff_iff, beq_iff_eq, beq_iff_eq]
  omega

/-- What all lines have in front, by the reference; by the package. -/
def cs (acc : Int) : List (List UInt8) → Int
  | [] => mx acc 0
  | x :: r => cs (if lead x < x.length ∧ (acc < 0 ∨ (lead x : Int) < acc) then (lead x : Int) else acc) r
def ci (acc : Int) : List (List UInt8) → Int
  | [] => acc
  | x :: r => if lead x < x.length ∧ (acc = -1 ∨ (lead x : Int) < acc) then (if lead x = 0 then 0 else ci (lead x : Int) r) else ci acc r
theorem cs_nonneg : ∀ (ls : List (List UInt8)) (acc : Int), 0 ≤ cs acc ls := by
  intro ls
  induction ls with
  | nil => intro acc; unfold cs mx; split <;> omega
  | cons x r ih => intro acc; exact ih _

theorem common_loop (ls : List (List UInt8)) (ok : Ok ls) : ∀ (n i k : Nat) (acc : Int), ls.length - i < n → n + 100001 ≤ k → i ≤ ls.length →
    spec_common.l0 k (ls.map mk) acc i = some (cs acc (ls.drop i)) := by
  obtain ⟨hl, hx⟩ := ok
  intro n
  induction n with
  | zero => intro i k acc h; omega
  | succ n ih =>
    intro i k acc hn hk hi
    obtain ⟨k, rfl⟩ : ∃ m, k = m + 1 := ⟨k - 1, by omega⟩
    have W1 := w64s i (by omega)
    simp only [spec_common.l0, W1.out, List.length_map]
    by_cases hlt : i < ls.length
    · rw [if_pos (by omega), if_pos (by omega), rd_mk hlt]
      have hxi := hx _ (List.getElem_mem hlt)
      rw [leading_tells _ hxi k (by omega), List.drop_eq_getElem_cons hlt]
      simp only [Option.bind_some, mk_size]
      have h1 := fun acc => ih (i + 1) k acc (by omega) (by omega) (by omega)
      unfold cs
      by_cases a : lead ls[i] < ls[i].length
      · rw [if_pos (by omega)]
        by_cases b : acc < 0
        · rw [if_pos b, h1, if_pos ⟨a, .inl b⟩]
        · rw [if_neg b]
          by_cases c : (lead ls[i] : Int) < acc
          · rw [if_pos c, h1, if_pos ⟨a, .inr c⟩]
          · rw [if_neg c, h1, if_neg (fun h => by rcases h.2 with h | h <;> contradiction)]
      · rw [if_neg (by omega), h1, if_neg (fun h => a h.1)]
    · rw [if_neg (by omega), List.drop_of_length_le (by omega)]
      rfl
theorem common_tells (x : List UInt8) (r : List (List UInt8)) (ok : Ok (x :: r)) (k : Nat) (hk : 300000 ≤ k) : spec_common.f k ((x :: r).map mk) = some (cs (-1) r) := by
  have hl := ok.1
  have := common_loop (x :: r) ok ((x :: r).length + 1) 1 k (-1) (by omega) (by omega) (by simp)
  simpa [spec_common.f] using this

/-- Lines of white space alone at the end fall away. -/
def rtrim (ls : List (List UInt8)) : List (List UInt8) := (ls.reverse.dropWhile blank).reverse
theorem rtrim_snoc_yes {ls : List (List UInt8)} {x : List UInt8} (h : blank x = true) : rtrim (ls ++ [x]) = rtrim ls := by simp [rtrim, List.dropWhile_cons, h]
theorem rtrim_snoc_no {ls : List (List UInt8)} {x : List UInt8} (h : blank x = false) : rtrim (ls ++ [x]) = ls ++ [x] := by simp [rtrim, List.dropWhile_cons, h]
theorem rtrim_length (ls : List (List UInt8)) : (rtrim ls).length ≤ ls.length := by
  unfold rtrim
  rw [List.length_reverse]
  have := (List.dropWhile_sublist (l := ls.reverse) blank).length_le
  rwa [List.length_reverse] at this
/-- The lines as one text. -/
def jn (ls : List (List UInt8)) : List UInt8 := Lib.join ls [10]
theorem jn_nil : jn [] = [] := rfl
theorem jn_cons (x : List UInt8) (r : List (List UInt8)) : jn (x :: r) = x ++ r.flatMap (fun y => 10 :: y) := by
  unfold jn
  rw [Lib.join_cons]
  congr 1
theorem jn_snoc {ls : List (List UInt8)} (h : ls ≠ []) (x : List UInt8) : jn (ls ++ [x]) = jn ls ++ [10] ++ x := by
  cases ls with
  | nil => exact absurd rfl h
  | cons a r => rw [List.cons_append, jn_cons, jn_cons]; simp

theorem Ok.take {ls : List (List UInt8)} (ok : Ok ls) (i : Nat) : Ok (ls.take i) := ⟨by rw [List.length_take]; have := ok.1; omega, fun x hx => ok.2 x (List.mem_of_mem_take hx)⟩
theorem Ok.tail {x : List UInt8} {ls : List (List UInt8)} (ok : Ok (x :: ls)) : Ok ls := ⟨by have := ok.1; simp at this; omega, fun y hy => ok.2 y (List.mem_cons_of_mem _ hy)⟩
theorem Ok.init {x : List UInt8} {ls : List (List UInt8)} (ok : Ok (ls ++ [x])) : Ok ls := ⟨by have := ok.1; simp at this; omega, fun y hy => ok.2 y (List.mem_append_left _ hy)⟩

theorem spec_l3 (ls : List (List UInt8)) (ok : Ok ls) : ∀ (n i k : Nat) (x6 : ByteArray), ls.length - i < n → n ≤ k → i ≤ ls.length → by' x6 = jn (ls.take i) → x6.size ≤ 100001 * i →
    spec_BlockValue.l3 k (ls.map mk) x6 i = some (mk (jn ls)) := by
  obtain ⟨hl, hx⟩ := ok
  intro n
  induction n with
  | zero => intro i k x6 h; omega
  | succ n ih =>
    intro i k x6 hn hk hi h6 hz
    obtain ⟨k, rfl⟩ : ∃ m, k = m + 1 := ⟨k - 1, by omega⟩
    have W1 := w64s i (by omega)
    simp only [spec_BlockValue.l3, W1.out, List.length_map]
    by_cases hlt : i < ls.length
    · have hxi := hx _ (List.getElem_mem hlt)
      have htk : ls.take (i + 1) = ls.take i ++ [ls[i]] := List.take_succ_eq_append_getElem hlt
      rw [if_pos (by omega), rd_mk hlt]
      by_cases h0 : 0 < i
      · have e1 : (x6 ++ (⟨#[10]⟩ : ByteArray)).size = x6.size + 1 := by rw [ByteArray.size_append]; rfl
        rw [if_pos (by omega), if_pos (by omega), if_pos (by omega), if_pos (by rw [e1, mk_size]; omega)]
        refine ih (i + 1) k _ (by omega) (by omega) (by omega) ?_ (by rw [ByteArray.size_append, e1, mk_size]; omega)
        have hne : ls.take i ≠ [] := by
          intro e
          rw [List.take_eq_nil_iff] at e
          rcases e with e | e
          · omega
          · subst e; simp at hlt
        rw [htk, jn_snoc hne, ← h6]
        simp [by', ByteArray.data_append, mk]
      · have h0' : i = 0 := by omega
        subst h0'
        rw [if_neg (by simp), if_pos (by simp), if_pos (by rw [mk_size]; omega)]
        refine ih (0 + 1) k _ (by omega) (by omega) (by omega) ?_ (by rw [ByteArray.size_append, mk_size]; omega)
        rw [htk]
        have e6 : by' x6 = [] := h6
        have e7 : jn (ls.take 0 ++ [ls[0]]) = ls[0] := by simp [jn_cons]
        rw [e7]
        have e8 : by' (x6 ++ mk ls[0]) = by' x6 ++ by' (mk ls[0]) := by simp [by', ByteArray.data_append]
        rw [e8, e6, by_mk]
        rfl
    · rw [if_neg (by omega)]
      have hi' : i = ls.length := by omega
      rw [hi', List.take_length] at h6
      rw [← h6, mk_by]

theorem spec_j4 (ls : List (List UInt8)) (ok : Ok ls) (k : Nat) (hk : 100010 ≤ k) : spec_BlockValue.j4 k (ls.map mk) = some (mk (jn ls)) := by
  obtain ⟨k, rfl⟩ : ∃ m, k = m + 1 := ⟨k - 1, by omega⟩
  have := ok.1
  simp only [spec_BlockValue.j4]
  exact spec_l3 ls ok (ls.length + 1) 0 k _ (by omega) (by omega) (by omega) rfl (by simp; rfl)

theorem last_mk {ls : List (List UInt8)} {x : List UInt8} (hl : (ls ++ [x]).length ≤ 100001) : Aside0 (wrap64 ((((ls ++ [x]).map mk).length : Int) - 1) = (ls.length : Int)) := ⟨by
  have e : ((ls ++ [x]).map mk).length = ls.length + 1 := by simp
  rw [e]
  simp only [List.length_append, List.length_cons, List.length_nil] at hl
  rw [w64 (by omega) (by omega)]; omega⟩
theorem rd_last {ls : List (List UInt8)} {x : List UInt8} : rdOf ByteArray.empty ((ls ++ [x]).map mk) (ls.length : Int) = mk x := by
  rw [rd_mk (by simp)]
  simp
theorem take_last {ls : List (List UInt8)} {x : List UInt8} : ((ls ++ [x]).map mk).take ls.length = ls.map mk := by
  rw [← List.map_take]
  simp
theorem snoc_or (ls : List (List UInt8)) : ls = [] ∨ ∃ (r : List (List UInt8)) (x : List UInt8), ls = r ++ [x] := by
  rcases List.eq_nil_or_concat ls with h | ⟨r, x, h⟩
  · exact .inl h
  · exact .inr ⟨r, x, by simpa using h⟩

theorem spec_l2 : ∀ (n : Nat) (ls : List (List UInt8)) (k : Nat), Ok ls → ls.length < n → n + 100010 ≤ k → spec_BlockValue.l2 k (ls.map mk) = some (mk (jn (rtrim ls))) := by
  intro n
  induction n with
  | zero => intro ls k _ h; omega
  | succ n ih =>
    intro ls k ok hn hk
    obtain ⟨k, rfl⟩ : ∃ m, k = m + 1 := ⟨k - 1, by omega⟩
    rcases snoc_or ls with rfl | ⟨r, x, rfl⟩
    · simp only [spec_BlockValue.l2]
      rw [if_neg (by simp), spec_j4 [] ok k (by omega)]
      rfl
    · have hl := ok.1
      have hx := ok.2 x (by simp)
      have W := last_mk (ls := r) (x := x) hl
      have hlen : ((r ++ [x]).map mk).length = r.length + 1 := by simp
      simp only [spec_BlockValue.l2, W.out, rd_last, Int.toNat_natCast, take_last, mk_size]
      rw [if_pos (by omega), if_pos (by omega), if_pos (by omega), leading_tells x hx k (by omega)]
      simp only [Option.bind_some]
      by_cases hb : lead x = x.length
      · rw [if_pos (by omega), if_pos (by omega), ih r k ok.init (by simp at hn; omega) (by omega), rtrim_snoc_yes (by simp [blank, hb])]
      · rw [if_neg (by omega), spec_j4 _ ok k (by omega), rtrim_snoc_no (by simp [blank, hb])]

theorem spec_l1 : ∀ (n : Nat) (ls : List (List UInt8)) (k : Nat), Ok ls → ls.length < n → n + 300000 ≤ k → spec_BlockValue.l1 k (ls.map mk) = some (mk (jn (rtrim (ls.dropWhile blank)))) := by
  intro n
  induction n with
  | zero => intro ls k _ h; omega
  | succ n ih =>
    intro ls k ok hn hk
    obtain ⟨k, rfl⟩ : ∃ m, k = m + 1 := ⟨k - 1, by omega⟩
    have hj2 : ∀ ls, Ok ls → spec_BlockValue.j2 k (ls.map mk) = some (mk (jn (rtrim ls))) := by
      intro ls ok
      obtain ⟨k, rfl⟩ : ∃ m, k = m + 1 := ⟨k - 1, by omega⟩
      have := ok.1
      simp only [spec_BlockValue.j2]
      exact spec_l2 (ls.length + 1) ls k ok (by omega) (by omega)
    cases ls with
    | nil =>
      simp only [spec_BlockValue.l1]
      rw [if_neg (by simp), hj2 [] ok]
      rfl
    | cons x r =>
      have hx := ok.2 x (by simp)
      simp only [spec_BlockValue.l1, rd_mk0, mk_size]
      have hpos : ((((x :: r).map mk).length : Nat) : Int) > 0 := by simp only [List.map_cons, List.length_cons]; omega
      rw [if_pos hpos, if_pos hpos, leading_tells x hx k (by omega)]
      simp only [Option.bind_some]
      by_cases hb : lead x = x.length
      · rw [if_pos (by omega), if_pos (by omega)]
        have e : ((x :: r).map mk).drop (Int.toNat 1) = r.map mk := rfl
        rw [e, ih r k ok.tail (by simp at hn; omega) (by omega)]
        simp [List.dropWhile_cons, blank, hb]
      · rw [if_neg (by omega), hj2 _ ok]
        simp [List.dropWhile_cons, blank, hb]

theorem drop_min (x : List UInt8) (n : Nat) : x.drop (min n x.length) = x.drop n := by
  rcases Nat.le_total n x.length with h | h
  · rw [Nat.min_eq_left h]
  · rw [Nat.min_eq_right h, List.drop_of_length_le (Nat.le_refl _), List.drop_of_length_le h]
/-- The lines but the first without the white space in front. -/
def strip (n : Nat) : List (List UInt8) → List (List UInt8)
  | [] => []
  | x :: r => x :: r.map (·.drop n)

theorem set_step (r : List (List UInt8)) (f : List UInt8 → List UInt8) (i : Nat) (hlt : i < r.length) : ((r.take i).map f ++ r.drop i).set i (f r[i]) = (r.take (i + 1)).map f ++ r.drop (i + 1) := by
  have hm : (List.map f (List.take i r)).length = i := by rw [List.length_map, List.length_take]; omega
  rw [List.set_append_right _ _ (by omega), hm, Nat.sub_self, List.drop_eq_getElem_cons hlt, List.take_succ_eq_append_getElem hlt]
  simp only [List.set_cons_zero, List.map_append, List.map_cons, List.map_nil, List.append_assoc, List.cons_append, List.nil_append]
theorem spec_l0 (x : List UInt8) (r : List (List UInt8)) (ok : Ok (x :: r)) (c : Nat) : ∀ (n i k : Nat), r.length - i < n → n + 500000 ≤ k → i ≤ r.length →
    spec_BlockValue.l0 k ((x :: ((r.take i).map (·.drop c) ++ r.drop i)).map mk) c ((i + 1 : Nat) : Int) = some (mk (jn (rtrim ((strip c (x :: r)).dropWhile blank)))) := by
  intro n
  induction n with
  | zero => intro i k h; omega
  | succ n ih =>
    intro i k hn hk hi
    obtain ⟨k, rfl⟩ : ∃ m, k = m + 1 := ⟨k - 1, by omega⟩
    have hl := ok.1
    simp only [List.length_cons] at hl
    have W1 := w64s (i + 1) (by omega)
    have hlen : ((x :: ((r.take i).map (·.drop c) ++ r.drop i)).map mk).length = r.length + 1 := by simp; omega
    simp only [spec_BlockValue.l0, W1.out, hlen]
    by_cases hlt : i < r.length
    · have hd : r.drop i = r[i] :: r.drop (i + 1) := List.drop_eq_getElem_cons hlt
      have hrd : rdOf ByteArray.empty ((x :: ((r.take i).map (·.drop c) ++ r.drop i)).map mk) ((i + 1 : Nat) : Int) = mk r[i] := by
        rw [rd_mk (by simp; omega)]
        congr 1
        simp only [List.getElem_cons_succ]
        rw [List.getElem_append_right (by simp; omega)]
        simp [Nat.min_eq_left (Nat.le_of_lt hlt)]
      simp only [hrd, mk_size]
      have hmn : mn (c : Int) (r[i].length : Int) = ((min c r[i].length : Nat) : Int) := by unfold mn; split <;> omega
      rw [hmn]
      rw [if_pos (by omega), if_pos (by omega), if_pos (by omega), if_pos (by omega)]
      have h1 := ih (i + 1) k (by omega) (by omega) (by omega)
      have hset : ((x :: ((r.take i).map (·.drop c) ++ r.drop i)).map mk).set (((i + 1 : Nat) : Int)).toNat ((mk r[i]).extract (((min c r[i].length : Nat) : Int)).toNat r[i].length) = (x :: ((r.take (i + 1)).map (·.drop c) ++ r.drop (i + 1))).map mk := by
        rw [Int.toNat_natCast, Int.toNat_natCast, extract_mk, by_mk, List.take_of_length_le (Nat.le_refl _), drop_min, ← List.map_set]
        congr 1
        rw [List.set_cons_succ]
        congr 1
        exact set_step r (·.drop c) i hlt
      rw [hset]
      exact h1
    · rw [if_neg (by omega)]
      have hi' : i = r.length := by omega
      subst hi'
      rw [List.take_length, List.drop_length, List.append_nil]
      refine spec_l1 (r.length + 2) (strip c (x :: r)) k ⟨by simp [strip]; omega, fun y hy => ?_⟩ (by simp [strip]) (by omega)
      simp only [strip, List.mem_cons, List.mem_map] at hy
      rcases hy with rfl | ⟨z, hz, rfl⟩
      · exact ok.2 _ (by simp)
      · have := ok.2 z (by simp [hz])
        rw [List.length_drop]; omega

/-- What the reference makes of a block string. -/
def bvS (l : List UInt8) : List UInt8 :=
  match sp false [] l with
  | [] => []
  | x :: r => jn (rtrim ((strip (cs (-1) r).toNat (x :: r)).dropWhile blank))

theorem sp_ne (cr : Bool) (cur l : List UInt8) : sp cr cur l ≠ [] := by
  induction l generalizing cr cur with
  | nil => simp [sp]
  | cons c r ih =>
    unfold sp
    split
    · split
      · exact ih _ _
      · simp
    · split
      · simp
      · exact ih _ _
theorem sp_total (l : List UInt8) : ∀ (cr : Bool) (cur : List UInt8), (sp cr cur l).length + (sp cr cur l).flatten.length ≤ cur.length + l.length + 1 := by
  induction l with
  | nil => intro cr cur; simp [sp]; omega
  | cons c r ih =>
    intro cr cur
    unfold sp
    split
    · split
      · have := ih false cur; simp only [List.length_cons]; omega
      · have := ih false []; simp only [List.length_cons, List.flatten_cons, List.length_append, List.length_nil] at *; omega
    · split
      · have := ih true []; simp only [List.length_cons, List.flatten_cons, List.length_append, List.length_nil] at *; omega
      · have := ih false (cur ++ [c]); simp only [List.length_cons, List.length_append, List.length_nil] at *; omega
theorem mem_flatten_le {ls : List (List UInt8)} {x : List UInt8} (h : x ∈ ls) : x.length ≤ ls.flatten.length := by
  induction ls with
  | nil => cases h
  | cons a r ih =>
    rw [List.flatten_cons, List.length_append]
    rcases List.mem_cons.1 h with rfl | h
    · omega
    · have := ih h; omega
theorem sp_ok {l : List UInt8} (h : l.length ≤ 100000) : Ok (sp false [] l) := by
  have := sp_total l false []
  simp only [List.length_nil] at this
  refine ⟨by omega, fun x hx => ?_⟩
  have h1 := mem_flatten_le hx
  have h2 : 1 ≤ (sp false [] l).length := List.length_pos_iff.2 (sp_ne _ _ _)
  omega

theorem spec_tells (s : ByteArray) (hs : s.size ≤ 100000) (k : Nat) (hk : 800000 ≤ k) : spec_BlockValue.f k s = some (mk (bvS (by' s))) := by
  unfold spec_BlockValue.f bvS
  rw [spec_Lines_tells s hs k (by omega)]
  simp only [Option.bind_some]
  have ok := sp_ok (l := by' s) (by rw [by_length]; exact hs)
  cases e : sp false [] (by' s) with
  | nil => exact absurd e (sp_ne _ _ _)
  | cons x r =>
    rw [e] at ok
    rw [common_tells x r ok k (by omega)]
    simp only [Option.bind_some]
    have hn := cs_nonneg r (-1)
    have hl := ok.1
    simp only [List.length_cons] at hl
    have := spec_l0 x r ok (cs (-1) r).toNat (r.length + 1) 0 k (by omega) (by omega) (by omega)
    rw [Int.toNat_of_nonneg hn] at this
    simpa using this

end Go.Proofs.Ytknbpibjjhcdiad.PFnBlockTwice.Z.L
