/-
  The value of a block string, in lines of its own and set in by 0 to 20 blanks, is the value again: for every text of at most 2000 bytes.
  This text: the law's own mathematics (lists alone), and the law.
-/
import Derived.Test.YtknbpibjjhcdiadTwicePlain4
namespace Go.Proofs.Ytknbpibjjhcdiad.PFnBlockTwice.Z.L
open Go.RowKit Go.Proofs.YtknbpibjjhcdiadW.PrintWords Go.Proofs.YtknbpibjjhcdiadW.PrintLast Go.Proofs.YtknbpibjjhcdiadW.PrintMore
set_option linter.unusedVariables false
set_option linter.unusedSimpArgs false

/-! ### Lines and their text -/
/-- No line end in a line. -/
def Free (x : List UInt8) : Prop := ∀ c ∈ x, c ≠ 10 ∧ c ≠ 13
theorem sp_free (l : List UInt8) : ∀ (cr : Bool) (cur : List UInt8), Free cur → ∀ x ∈ sp cr cur l, Free x := by
  induction l with
  | nil => intro cr cur h x hx; simp [sp] at hx; subst hx; exact h
  | cons c r ih =>
    intro cr cur h x hx
    have hn : Free [] := fun c hc => by cases hc
    unfold sp at hx
    split at hx
    · split at hx
      · exact ih _ _ h x hx
      · rcases List.mem_cons.1 hx with rfl | hx
        · exact h
        · exact ih _ _ hn x hx
    · split at hx
      · rcases List.mem_cons.1 hx with rfl | hx
        · exact h
        · exact ih _ _ hn x hx
      · rename_i h10 h13
        refine ih _ _ (fun d hd => ?_) x hx
        rcases List.mem_append.1 hd with hd | hd
        · exact h d hd
        · rw [List.mem_singleton.1 hd]; exact ⟨h10, h13⟩
theorem sp_walk (x : List UInt8) (hx : Free x) : ∀ (cr : Bool) (cur rest : List UInt8), (cr = true → x ≠ [] ∨ rest[0]? ≠ some 10) → sp cr cur (x ++ rest) = sp false (cur ++ x) rest := by
  induction x with
  | nil =>
    intro cr cur rest h
    cases cr with
    | false => simp
    | true =>
      rcases h rfl with h | h
      · exact absurd rfl h
      · rw [List.nil_append, List.append_nil]; exact sp_true h
  | cons c r ih =>
    intro cr cur rest h
    obtain ⟨h10, h13⟩ := hx c (by simp)
    rw [List.cons_append, sp, if_neg h10, if_neg h13, ih (fun d hd => hx d (List.mem_cons_of_mem _ hd)) false _ rest (by simp)]
    simp
theorem sp_line (x : List UInt8) (hx : Free x) (rest : List UInt8) : sp false [] (x ++ 10 :: rest) = x :: sp false [] rest := by
  rw [sp_walk x hx false [] _ (by simp)]
  simp [sp]
theorem sp_last (x : List UInt8) (hx : Free x) : sp false [] x = [x] := by
  have := sp_walk x hx false [] [] (by simp)
  rw [List.append_nil] at this
  rw [this]; simp [sp]
theorem sp_jn : ∀ (ls : List (List UInt8)), ls ≠ [] → (∀ x ∈ ls, Free x) → sp false [] (jn ls) = ls := by
  intro ls
  induction ls with
  | nil => intro h; exact absurd rfl h
  | cons x r ih =>
    intro _ hf
    cases r with
    | nil =>
      rw [jn_cons]
      simp only [List.flatMap_nil, List.append_nil]
      exact sp_last x (hf x (by simp))
    | cons y r =>
      have e : jn (x :: y :: r) = x ++ 10 :: jn (y :: r) := by rw [jn_cons, jn_cons]; simp
      rw [e, sp_line x (hf x (by simp)), ih (by simp) (fun z hz => hf z (List.mem_cons_of_mem _ hz))]

/-! ### Sizes -/
def meas (ls : List (List UInt8)) : Nat := ls.length + ls.flatten.length
theorem meas_sub {a b : List (List UInt8)} (h : a.Sublist b) : meas a ≤ meas b := by
  induction h with
  | slnil => exact Nat.le_refl _
  | cons x _ ih => unfold meas at *; simp only [List.length_cons, List.flatten_cons, List.length_append]; omega
  | cons_cons x _ ih => unfold meas at *; simp only [List.length_cons, List.flatten_cons, List.length_append]; omega
theorem rtrim_sub (ls : List (List UInt8)) : (rtrim ls).Sublist ls := by
  have h := List.dropWhile_sublist (l := ls.reverse) blank
  have h2 := h.reverse
  rwa [List.reverse_reverse] at h2
theorem meas_map (f : List UInt8 → List UInt8) (hf : ∀ x, (f x).length ≤ x.length) (ls : List (List UInt8)) : meas (ls.map f) ≤ meas ls := by
  unfold meas
  induction ls with
  | nil => simp
  | cons x r ih =>
    have := hf x
    simp only [List.map_cons, List.length_cons, List.flatten_cons, List.length_append] at *
    omega
theorem meas_cuts (c : Int) (ls : List (List UInt8)) : meas (cuts c ls) ≤ meas ls := by
  unfold cuts
  split
  · exact meas_map _ (cut_length _) ls
  · exact Nat.le_refl _
theorem bvI_length (l : List UInt8) : (bvI l).length ≤ l.length + 1 := by
  unfold bvI
  have ht := sp_total l false []
  cases e : sp false [] l with
  | nil => simp
  | cons x r =>
    rw [e] at ht
    have h1 := jn_length (rtrim ((cuts (ci (-1) r) (x :: r)).dropWhile blank))
    have h2 := meas_sub ((rtrim_sub ((cuts (ci (-1) r) (x :: r)).dropWhile blank)).trans (List.dropWhile_sublist blank))
    have h3 := meas_cuts (ci (-1) r) (x :: r)
    unfold meas at h2 h3
    simp only [List.length_nil] at ht
    show (jn (rtrim ((cuts (ci (-1) r) (x :: r)).dropWhile blank))).length ≤ _
    omega

/-! ### Lists that lose nothing -/
theorem dropWhile_all {ls : List (List UInt8)} (h : ls.length ≤ (ls.dropWhile blank).length) : ls.dropWhile blank = ls :=
  (List.dropWhile_sublist blank).eq_of_length_le h
theorem head_full {x : List UInt8} {r : List (List UInt8)} (h : (x :: r).dropWhile blank = x :: r) : blank x = false := by
  cases hb : blank x with
  | false => rfl
  | true =>
    rw [List.dropWhile_cons, if_pos hb] at h
    have := (List.dropWhile_sublist (l := r) blank).length_le
    rw [h, List.length_cons] at this
    omega

theorem free_drop {x : List UInt8} (h : Free x) (n : Nat) : Free (x.drop n) := fun c hc => h c (List.mem_of_mem_drop hc)
/-- If a value is its own value behind a line feed, and has no empty lines: nothing stands in front of all of its lines, and neither end is of white space alone. -/
theorem own_value (V : List UInt8) (l : List (List UInt8)) (hl : sp false [] V = l) (hne : ∀ x ∈ l, x ≠ []) (hv : bvS (10 :: V) = V) :
    l = rtrim l ∧ l.dropWhile blank = l ∧ cs (-1) l = 0 ∧ jn l = V := by
  have hsp : sp false [] (10 :: V) = [] :: l := by rw [← hl]; rfl
  have hl0 : l ≠ [] := by rw [← hl]; exact sp_ne _ _ _
  have hfree : ∀ x ∈ l, Free x := by rw [← hl]; exact sp_free V false [] (fun c hc => by cases hc)
  unfold bvS at hv
  rw [hsp] at hv
  simp only [strip] at hv
  have hb : ([] :: l.map (·.drop (cs (-1) l).toNat)).dropWhile blank = (l.map (·.drop (cs (-1) l).toNat)).dropWhile blank := rfl
  rw [hb] at hv
  obtain ⟨X, hX⟩ : ∃ X, X = l.map (·.drop (cs (-1) l).toNat) := ⟨_, rfl⟩
  rw [← hX] at hv
  obtain ⟨ms, hms⟩ : ∃ ms, ms = rtrim (X.dropWhile blank) := ⟨_, rfl⟩
  rw [← hms] at hv
  have hsub : ms.Sublist X := by rw [hms]; exact (rtrim_sub _).trans (List.dropWhile_sublist blank)
  have hmf : ∀ x ∈ ms, Free x := by
    intro x hx
    have := hsub.subset hx
    rw [hX] at this
    obtain ⟨y, hy, rfl⟩ := List.mem_map.1 this
    exact free_drop (hfree y hy) _
  have hm0 : ms ≠ [] := by
    intro e
    rw [e, jn_nil] at hv
    rw [← hv] at hl
    have : ([] : List UInt8) ∈ l := by rw [← hl]; simp [sp]
    exact hne [] this rfl
  have hlm : l = ms := by
    rw [← hl, ← hv]
    exact sp_jn ms hm0 hmf
  have hXl : X.length = l.length := by rw [hX, List.length_map]
  have hms1 := (rtrim_sub (X.dropWhile blank)).length_le
  have hms2 := (List.dropWhile_sublist (l := X) blank).length_le
  rw [← hms, ← hlm] at hms1
  have hd : X.dropWhile blank = X := dropWhile_all (by omega)
  have hr : rtrim X = X := by
    refine (rtrim_sub X).eq_of_length_le ?_
    rw [hd] at hms
    rw [← hms, ← hlm]; omega
  have hlX : l = X := by rw [hlm, hms, hd, hr]
  refine ⟨by rw [hlX, hr], by rw [hlX, hd], ?_, by rw [hlm]; exact hv⟩
  -- the first line has lost nothing
  cases l with
  | nil => exact absurd rfl hl0
  | cons x r =>
    have hx := hne x (by simp)
    have e : x = x.drop (cs (-1) (x :: r)).toNat := by
      have := hlX.trans hX
      rw [List.map_cons] at this
      injection this
    have hlen := congrArg List.length e
    rw [List.length_drop] at hlen
    have hpos : 0 < x.length := List.length_pos_iff.2 hx
    have := cs_nonneg (x :: r) (-1)
    omega

/-! ### What is in front, set in by blanks -/
def pre (B : Nat) (x : List UInt8) : List UInt8 := List.replicate B 32 ++ x
theorem pre_length (B : Nat) (x : List UInt8) : (pre B x).length = B + x.length := by simp [pre]
theorem pre_lead (B : Nat) (x : List UInt8) : lead (pre B x) = B + lead x := by
  unfold pre
  rw [lead_drop (List.replicate B 32 ++ x) B (fun j c hj hc => by
    rw [List.getElem?_append_left (by simpa using hj), List.getElem?_replicate, if_pos hj] at hc
    injection hc with hc
    rw [← hc]; rfl) (by simp)]
  congr 1
  simp
theorem pre_cut (B : Nat) (x : List UInt8) : cut B (pre B x) = x := by
  unfold cut
  rw [if_neg (by rw [pre_length]; omega)]
  simp [pre]
/-- The reference's fold, without its end. -/
def cf (acc : Int) : List (List UInt8) → Int
  | [] => acc
  | x :: r => cf (if lead x < x.length ∧ (acc < 0 ∨ (lead x : Int) < acc) then (lead x : Int) else acc) r
theorem cs_cf : ∀ (ls : List (List UInt8)) (acc : Int), cs acc ls = mx (cf acc ls) 0 := by
  intro ls
  induction ls with
  | nil => intro acc; rfl
  | cons x r ih => intro acc; exact ih _
theorem cf_zero : ∀ (ls : List (List UInt8)), cf 0 ls = 0 := by
  intro ls
  induction ls with
  | nil => rfl
  | cons x r ih => unfold cf; rw [if_neg (by intro h; rcases h.2 with h | h <;> omega)]; exact ih
theorem cf_nonneg : ∀ (ls : List (List UInt8)) (acc : Int), 0 ≤ acc → 0 ≤ cf acc ls := by
  intro ls
  induction ls with
  | nil => intro acc h; exact h
  | cons x r ih =>
    intro acc h
    unfold cf
    apply ih
    split <;> omega
theorem ci_pre (B : Nat) : ∀ (ls : List (List UInt8)) (acc : Int), 0 ≤ acc → ci (acc + B) (ls.map (pre B) ++ [[]]) = cf acc ls + B := by
  intro ls
  induction ls with
  | nil =>
    intro acc h
    simp only [List.map_nil, List.nil_append, cf]
    unfold ci
    rw [if_neg (by intro h; simp [lead] at h)]
    rfl
  | cons x r ih =>
    intro acc h
    simp only [List.map_cons, List.cons_append, cf]
    unfold ci
    rw [pre_lead, pre_length]
    by_cases a : lead x < x.length ∧ (acc < 0 ∨ (lead x : Int) < acc)
    · rw [if_pos a, if_pos ⟨by omega, by have := a.2; omega⟩]
      by_cases z : B + lead x = 0
      · rw [if_pos z]
        have h1 : lead x = 0 := by omega
        have h2 : B = 0 := by omega
        rw [h1, h2]
        simp [cf_zero]
      · rw [if_neg z]
        have := ih (lead x : Int) (by omega)
        rw [← this]
        congr 1
        omega
    · rw [if_neg a, if_neg (by intro hh; apply a; exact ⟨by omega, by have := hh.2; omega⟩)]
      exact ih acc h
theorem ci_pre0 (B : Nat) (x : List UInt8) (r : List (List UInt8)) (hx : lead x < x.length) : ci (-1) ((x :: r).map (pre B) ++ [[]]) = cf (-1) (x :: r) + B := by
  have e0 : cf (-1) (x :: r) = cf (lead x : Int) r := by
    show cf (if lead x < x.length ∧ ((-1 : Int) < 0 ∨ (lead x : Int) < -1) then (lead x : Int) else -1) r = _
    rw [if_pos ⟨hx, .inl (by omega)⟩]
  rw [e0]
  simp only [List.map_cons, List.cons_append]
  unfold ci
  rw [pre_lead, pre_length, if_pos ⟨by omega, .inl rfl⟩]
  by_cases z : B + lead x = 0
  · rw [if_pos z]
    have h1 : lead x = 0 := by omega
    have h2 : B = 0 := by omega
    rw [h1, h2]
    simp [cf_zero]
  · rw [if_neg z]
    have := ci_pre B r (lead x : Int) (by omega)
    rw [← this]
    congr 1
    omega

/-- The lines, set in, each with a line feed behind, behind one. -/
def inText (B : Nat) (l : List (List UInt8)) : List UInt8 := 10 :: l.flatMap (fun x => pre B x ++ [10])
theorem sp_lines (B : Nat) : ∀ (l : List (List UInt8)), (∀ x ∈ l, Free x) → sp false [] (l.flatMap (fun x => pre B x ++ [10])) = l.map (pre B) ++ [[]] := by
  intro l
  induction l with
  | nil => intro _; rfl
  | cons x r ih =>
    intro hf
    have hp : Free (pre B x) := by
      intro c hc
      unfold pre at hc
      rcases List.mem_append.1 hc with hc | hc
      · rw [(List.mem_replicate.1 hc).2]; decide
      · exact hf x (by simp) c hc
    have e : (x :: r).flatMap (fun x => pre B x ++ [10]) = pre B x ++ 10 :: r.flatMap (fun x => pre B x ++ [10]) := by simp
    rw [e, sp_line _ hp, ih (fun y hy => hf y (List.mem_cons_of_mem _ hy))]
    rfl
/-- The law's heart. -/
theorem twice (V : List UInt8) (l : List (List UInt8)) (B : Nat) (hl : sp false [] V = l) (hne : ∀ x ∈ l, x ≠ []) (hv : bvS (10 :: V) = V) : bvI (inText B l) = V := by
  obtain ⟨hr, hd, hc, hj⟩ := own_value V l hl hne hv
  have hfree : ∀ x ∈ l, Free x := by rw [← hl]; exact sp_free V false [] (fun c hc => by cases hc)
  have hl0 : l ≠ [] := by rw [← hl]; exact sp_ne _ _ _
  have hsp : sp false [] (inText B l) = [] :: (l.map (pre B) ++ [[]]) := by
    show [] :: sp false [] (l.flatMap (fun x => pre B x ++ [10])) = _
    rw [sp_lines B l hfree]
  unfold bvI
  rw [hsp]
  cases l with
  | nil => exact absurd rfl hl0
  | cons x r =>
    have hxb := head_full hd
    have hxl : lead x < x.length := by
      have := lead_le x
      unfold blank at hxb
      have h2 : ¬ lead x = x.length := by simpa using hxb
      omega
    have hcf : cf (-1) (x :: r) = 0 := by
      have h1 : 0 ≤ cf (-1) (x :: r) := by
        show 0 ≤ cf (if lead x < x.length ∧ ((-1 : Int) < 0 ∨ (lead x : Int) < -1) then (lead x : Int) else -1) r
        rw [if_pos ⟨hxl, .inl (by omega)⟩]
        exact cf_nonneg r _ (by omega)
      rw [cs_cf] at hc
      unfold mx at hc
      split at hc <;> omega
    have hci := ci_pre0 B x r hxl
    rw [hcf] at hci
    have hcuts : cuts (ci (-1) ((x :: r).map (pre B) ++ [[]])) ([] :: ((x :: r).map (pre B) ++ [[]])) = [] :: ((x :: r) ++ [[]]) := by
      rw [hci]
      unfold cuts
      by_cases hB : B = 0
      · subst hB
        rw [if_neg (by omega)]
        have : pre 0 = id := by funext y; rfl
        rw [this, List.map_id]
      · rw [if_pos (by omega)]
        have e0 : ((0 : Int) + (B : Int)).toNat = B := by omega
        have e1 : cut B [] = [] := by unfold cut; rw [if_pos (by simp; omega)]
        have e2 : (cut B) ∘ (pre B) = id := by funext y; exact pre_cut B y
        rw [e0, List.map_cons, List.map_append, List.map_map, e1, e2, List.map_id]
        simp [e1]
    show jn (rtrim ((cuts (ci (-1) ((x :: r).map (pre B) ++ [[]])) ([] :: ((x :: r).map (pre B) ++ [[]]))).dropWhile blank)) = V
    rw [hcuts]
    have hdw : ([] :: ((x :: r) ++ [[]])).dropWhile blank = (x :: r) ++ [[]] := by
      rw [List.dropWhile_cons, if_pos (by rfl), List.cons_append, List.dropWhile_cons, if_neg (by rw [hxb]; simp)]
    rw [hdw, rtrim_snoc_yes (by rfl), ← hr]
    exact hj

/-! ### The law -/
theorem example_tells : bvI [10, 32, 32, 97, 10] = [97] := by decide +kernel

theorem toList_by (s : ByteArray) : s.toList = by' s := Go.ByteArray.toList_eq s
theorem law_l1 (V : List UInt8) (l : List (List UInt8)) (B i : Nat) (x1 : Int) (hB : B ≤ 20) (hx1 : Int.tmod (wrap64 x1) 21 = (B : Int)) (hi : i < l.length) (hli : l[i].length ≤ 100000) (hl : l.length ≤ 100001) (K : Nat)
    (pfx : List UInt8) (hp : pfx.length ≤ 10000000)
    (hout : ∀ k, K ≤ k → laws_FnBlockTwice.l0 k x1 true (mk V) (mk (pfx ++ (pre B l[i] ++ [10]))) (l.map mk) ((i + 1 : Nat) : Int) = some true) :
    ∀ (n j k : Nat), B - j < n → n + K ≤ k → j ≤ B → laws_FnBlockTwice.l1 k x1 true (mk V) (mk (pfx ++ List.replicate j 32)) (l.map mk) i j = some true := by
  intro n
  induction n with
  | zero => intro j k h; omega
  | succ n ih =>
    intro j k hn hk hj
    obtain ⟨k, rfl⟩ : ∃ m, k = m + 1 := ⟨k - 1, by omega⟩
    have W1 := w64s j (by omega)
    have W2 := w64s i (by omega)
    have hz : (mk (pfx ++ List.replicate j 32)).size = pfx.length + j := by rw [mk_size]; simp
    simp only [laws_FnBlockTwice.l1, hx1, W1.out, W2.out, List.length_map, rd_mk hi]
    by_cases hlt : j < B
    · rw [if_pos (by omega), if_pos (by omega)]
      have e : mk (pfx ++ List.replicate j 32) ++ (⟨#[32]⟩ : ByteArray) = mk (pfx ++ List.replicate (j + 1) 32) := by
        apply ba_ext
        rw [by_mk, List.replicate_succ']
        simp [by', ByteArray.data_append, mk]
      rw [e]
      exact ih (j + 1) k (by omega) (by omega) (by omega)
    · have hjB : j = B := by omega
      subst hjB
      have e1 : (mk l[i] ++ (⟨#[10]⟩ : ByteArray)).size = l[i].length + 1 := by rw [ByteArray.size_append, mk_size]; rfl
      rw [if_neg (by omega), if_pos (by omega), if_pos (by omega), if_pos (by rw [mk_size]; omega), if_pos (by rw [e1]; omega)]
      have e : mk (pfx ++ List.replicate j 32) ++ (mk l[i] ++ (⟨#[10]⟩ : ByteArray)) = mk (pfx ++ (pre j l[i] ++ [10])) := by
        apply ba_ext
        rw [by_mk]
        simp [by', ByteArray.data_append, mk, pre]
      rw [e]
      exact hout k (by omega)

theorem flatMap_length (B : Nat) (hB : B ≤ 20) (l : List (List UInt8)) : (l.flatMap (fun x => pre B x ++ [10])).length ≤ 21 * l.length + l.flatten.length := by
  induction l with
  | nil => simp
  | cons x r ih =>
    simp only [List.flatMap_cons, List.length_append, List.length_cons, List.length_nil, List.flatten_cons, pre_length]
    omega
def fuel (n : Nat) : Nat := 30 * n + 900000
theorem fuel_is (n : Nat) : fuel n = 30 * n + 900000 := rfl
set_option maxRecDepth 8000 in
theorem law_l0 (V : List UInt8) (hV : V.length ≤ 3000) (l : List (List UInt8)) (hl : sp false [] V = l) (B : Nat) (x1 : Int) (hB : B ≤ 20) (hx1 : Int.tmod (wrap64 x1) 21 = (B : Int)) :
    ∀ (n i k : Nat), l.length - i < n → fuel n ≤ k → i ≤ l.length → (∀ x ∈ l.take i, x ≠ []) → (0 < i → bvS (10 :: V) = V) →
    laws_FnBlockTwice.l0 k x1 true (mk V) (mk (inText B (l.take i))) (l.map mk) i = some true := by
  have ht := sp_total V false []
  rw [hl] at ht
  simp only [List.length_nil] at ht
  have hl0 : l ≠ [] := by rw [← hl]; exact sp_ne _ _ _
  intro n
  induction n with
  | zero => intro i k h; omega
  | succ n ih =>
    intro i k hn hk hi hne hv
    have F1 := fuel_is (n + 1)
    have F0 := fuel_is n
    obtain ⟨k, rfl⟩ : ∃ m, k = m + 1 := ⟨k - 1, by omega⟩
    have hin : ∀ i, (inText B (l.take i)).length ≤ 90000 := by
      intro i
      unfold inText
      have h1 := flatMap_length B hB (l.take i)
      have h2 := meas_sub (List.take_sublist i l)
      unfold meas at h2
      simp only [List.length_cons]
      omega
    simp only [laws_FnBlockTwice.l0, List.length_map]
    by_cases hlt : i < l.length
    · have hli : l[i].length ≤ 100000 := by have := mem_flatten_le (List.getElem_mem hlt); omega
      rw [if_pos (by omega), if_pos (by omega), rd_mk hlt, toList_by, by_mk]
      have hj2 : ∀ k, 1 ≤ k → laws_FnBlockTwice.j2 k x1 true (mk V) (mk (inText B (l.take i))) (l.map mk) i true = some true := by
        intro k hk
        obtain ⟨k, rfl⟩ : ∃ m, k = m + 1 := ⟨k - 1, by omega⟩
        simp [laws_FnBlockTwice.j2]
      by_cases he : l[i] = []
      · rw [if_pos he]
        exact hj2 k (by omega)
      · rw [if_neg he, if_pos (by rw [mk_size]; omega)]
        have e1 : (⟨#[10]⟩ : ByteArray) ++ mk V = mk (10 :: V) := by
          apply ba_ext
          rw [by_mk]
          simp [by', ByteArray.data_append, mk]
        rw [e1]
        have hs : (mk (10 :: V)).size ≤ 100000 := by rw [mk_size, List.length_cons]; omega
        obtain ⟨b, hb⟩ := sure_tells (mk (10 :: V)) hs k (by omega)
        rw [hb]
        simp only [Option.bind_some]
        cases b with
        | false =>
          rw [if_neg (by simp)]
          exact hj2 k (by omega)
        | true =>
          rw [if_pos rfl, spec_tells (mk (10 :: V)) hs k (by omega)]
          simp only [Option.bind_some, toList_by, by_mk]
          by_cases hvv : bvS (10 :: V) = V
          · have : (bvS (10 :: V) != V) = false := by rw [hvv]; simp
            rw [this]
            obtain ⟨k, rfl⟩ : ∃ m, k = m + 1 := ⟨k - 1, by omega⟩
            simp only [laws_FnBlockTwice.j2]
            rw [if_neg (by simp)]
            have htk : l.take (i + 1) = l.take i ++ [l[i]] := List.take_succ_eq_append_getElem hlt
            have h0 := law_l1 V l B i x1 hB hx1 hlt hli (by omega) (fuel n) (inText B (l.take i)) (by have := hin i; omega) (fun k' hk' => by
              have h1 := ih (i + 1) k' (by omega) hk' (by omega) (fun x hx => by
                rw [htk] at hx
                rcases List.mem_append.1 hx with hx | hx
                · exact hne x hx
                · rw [List.mem_singleton.1 hx]; exact he) (fun _ => hvv)
              have e2 : inText B (l.take (i + 1)) = inText B (l.take i) ++ (pre B l[i] ++ [10]) := by
                rw [htk]
                unfold inText
                rw [List.flatMap_append, List.cons_append]
                simp only [List.flatMap_cons, List.flatMap_nil, List.append_nil]
              rw [e2] at h1
              exact h1) (B + 1) 0 k (by omega) (by omega) (by omega)
            have e3 : inText B (l.take i) ++ List.replicate 0 32 = inText B (l.take i) := List.append_nil _
            rw [e3] at h0
            exact h0
          · have : (bvS (10 :: V) != V) = true := by rw [bne_iff_ne]; exact hvv
            rw [this]
            exact hj2 k (by omega)
    · rw [if_neg (by omega), if_pos trivial]
      have hi' : i = l.length := by omega
      subst hi'
      have hin' := hin l.length
      rw [List.take_length] at hne hin' ⊢
      have hpos : 0 < l.length := List.length_pos_iff.2 hl0
      rw [impl_tells _ (by rw [mk_size]; omega) k (by omega)]
      simp only [Option.bind_some, toList_by, by_mk]
      rw [twice V l B hl hne (hv hpos)]
      simp

theorem law_tells (a0 : ByteArray) (a1 : Int) (h1 : 0 ≤ a1 ∧ a1 ≤ 255) : ∃ k, laws_FnBlockTwice.f k a0 a1 = some true := by
  unfold laws_FnBlockTwice.f
  by_cases hz : (a0.size : Int) > 2147483647
  · exact ⟨0, by rw [if_pos hz]⟩
  · refine ⟨1100001, ?_⟩
    rw [if_neg hz]
    have hj : laws_FnBlockTwice.j0 1100001 a0 a1 true = some true := by
      rw [show 1100001 = 1100000 + 1 from rfl]
      simp only [laws_FnBlockTwice.j0]
      rw [if_pos trivial]
    unfold laws_short9.f
    by_cases hs : (a0.size : Int) ≤ 2000
    · rw [if_pos hs]
      obtain ⟨b, hb⟩ := utf8_tells a0 (by omega)
      rw [hb _ (by omega)]
      simp only [Option.bind_some]
      cases b with
      | false => rw [if_neg (by simp)]; exact hj
      | true =>
        rw [if_pos rfl]
        obtain ⟨q, hq⟩ := sure_tells a0 (by omega) 1100001 (by omega)
        rw [hq]
        simp only [Option.bind_some]
        cases q with
        | false => exact hj
        | true =>
          rw [show 1100001 = 1100000 + 1 from rfl]
          simp only [laws_FnBlockTwice.j0]
          rw [if_neg (by simp)]
          have e1 : (⟨#[10, 32, 32, 97, 10]⟩ : ByteArray) = mk [10, 32, 32, 97, 10] := rfl
          rw [e1, impl_tells _ (by rw [mk_size]; simp) _ (by omega), impl_tells a0 (by omega) _ (by omega)]
          simp only [Option.bind_some, by_mk, example_tells]
          have hV := bvI_length (by' a0)
          rw [by_length] at hV
          rw [spec_Lines_tells _ (by rw [mk_size]; omega) _ (by rw [mk_size]; omega), by_mk]
          simp only [Option.bind_some]
          have e2 : ((mk [97]).toList == ([97] : List UInt8)) = true := by rw [toList_by, by_mk]; rfl
          rw [e2]
          have hB : Int.tmod (wrap64 a1) 21 = (((a1.toNat % 21 : Nat)) : Int) := by
            rw [w64 (by omega) (by omega)]
            obtain ⟨n, rfl⟩ := Int.eq_ofNat_of_zero_le h1.1
            rfl
          have ht := sp_total (bvI (by' a0)) false []
          simp only [List.length_nil] at ht
          have := law_l0 (bvI (by' a0)) (by omega) (sp false [] (bvI (by' a0))) rfl (a1.toNat % 21) a1 (by omega) hB ((sp false [] (bvI (by' a0))).length + 1) 0 1100000 (by omega) (by rw [fuel_is]; omega) (by omega) (by simp) (fun h => by omega)
          exact this
    · rw [if_neg hs]
      simp only [Option.bind_some]
      rw [if_neg (by simp)]
      exact hj

theorem law_walk (a0 : ByteArray) (a1 : Int) (w : World) (h0 : a0.size ≤ 140737488351232) (h1 : (Lit.int .u8 a1).wf = true) :
    Calls Try.prog 3 #[.string a0, .int .u8 a1] w fun e w' => e = .returned (.bool true) ∧ Below w.heap.size w w' := by
  obtain ⟨k, hk⟩ := law_tells a0 a1 (by
    simp only [Lit.wf, Bool.and_eq_true, decide_eq_true_eq] at h1
    have e0 : IntKind.min .u8 = 0 := rfl
    have e1 : IntKind.max .u8 = 255 := rfl
    omega)
  exact laws_FnBlockTwice.calls k a0 a1 true w hk

end Go.Proofs.Ytknbpibjjhcdiad.PFnBlockTwice.Z.L
