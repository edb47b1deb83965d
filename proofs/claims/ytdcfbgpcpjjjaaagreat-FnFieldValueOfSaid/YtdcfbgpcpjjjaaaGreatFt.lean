/- Values as trees: the nodes of a tree, which trees are right data. Plain definitions and facts. -/
import Derived.Test.YtdcfbgpcpjjjaaaGreatFm
import Derived.Laws.Strings
namespace Go.Proofs.YtdcfbgpcpjjjaaaGreat.Dr
open Go.Proofs.YtdcfbgpcpjjjaaaGreat.Fl
set_option linter.unusedVariables false
set_option linter.unusedSimpArgs false
/-- A value as a tree: kind, number's word, text, parts. -/
inductive Tr where
  | mk (kind : Int) (num : Nat) (text : ByteArray) (kids : List Tr)
mutual
def nodes : Tr → List V4
  | .mk k n t ks => ⟨k, n, t, 1 + (nodesL ks).length⟩ :: nodesL ks
def nodesL : List Tr → List V4
  | [] => []
  | t :: ts => nodes t ++ nodesL ts
end
theorem nodesL_append (a b : List Tr) : nodesL (a ++ b) = nodesL a ++ nodesL b := by
  induction a with
  | nil => simp [nodesL]
  | cons t ts ih => simp [nodesL, ih]
theorem nodes_pos (t : Tr) : 0 < (nodes t).length := by cases t; simp [nodes]
def Tr.kind : Tr → Int | .mk k _ _ _ => k
def Tr.num : Tr → Nat | .mk _ n _ _ => n
def Tr.text : Tr → ByteArray | .mk _ _ t _ => t
def Tr.kids : Tr → List Tr | .mk _ _ _ ks => ks
/-- A member of an object: its number's word (nought), its name, its value. -/
structure Mb where
  num : Nat
  name : ByteArray
  val : Tr
def Mb.tree (m : Mb) : Tr := .mk 9 m.num m.name [m.val]
/-- Right data. -/
inductive TR (errs : Bool) : Tr → Prop
  | nul (n : Nat) (hn : numZero n = true) : TR errs (.mk 1 n ⟨#[]⟩ [])
  | tru (n : Nat) (hn : numZero n = true) : TR errs (.mk 2 n ⟨#[]⟩ [])
  | fls (n : Nat) (hn : numZero n = true) : TR errs (.mk 3 n ⟨#[]⟩ [])
  | err (n : Nat) (hn : numZero n = true) (he : errs = true) : TR errs (.mk 10 n ⟨#[]⟩ [])
  | int (n : Nat) (hn : intN n = true) : TR errs (.mk 4 n ⟨#[]⟩ [])
  | flt (n : Nat) (hn : finN n = true) : TR errs (.mk 5 n ⟨#[]⟩ [])
  | str (n : Nat) (t : ByteArray) (hn : numZero n = true) (ht : t.size ≤ 200) : TR errs (.mk 6 n t [])
  | list (n : Nat) (ks : List Tr) (hn : numZero n = true) (hk : ∀ s, s ∈ ks → TR errs s) : TR errs (.mk 7 n ⟨#[]⟩ ks)
  | obj (n : Nat) (ms : List Mb) (hn : numZero n = true) (hz : ∀ m, m ∈ ms → numZero m.num = true ∧ m.name.size ≤ 100) (hd : (ms.map Mb.name).Nodup) (hk : ∀ m, m ∈ ms → TR errs m.val) : TR errs (.mk 8 n ⟨#[]⟩ (ms.map Mb.tree))
theorem bytes_empty {t : ByteArray} (h : t.toList.isEmpty = true) : t = ⟨#[]⟩ := by
  have e : t.toList = [] := by simpa using h
  have e2 : t.data.toList = [] := by rw [← e, ByteArray.toList_eq]
  cases t with
  | mk d =>
    congr 1
    exact Array.toList_eq_nil_iff.1 e2
/-- What the loop over the parts has found so far: p, the nodes that it went over. -/
inductive Done (errs : Bool) (x : V4) (p : List V4) (names : List ByteArray) : Prop
  | list (h8 : x.kind ≠ 8) (ks : List Tr) (hp : p = x :: nodesL ks) (hk : ∀ s, s ∈ ks → TR errs s) : Done errs x p names
  | obj (h8 : x.kind = 8) (ms : List Mb) (hp : p = x :: nodesL (ms.map Mb.tree)) (hn : names = ms.map Mb.name) (hz : ∀ m, m ∈ ms → numZero m.num = true ∧ m.name.size ≤ 100) (hd : (ms.map Mb.name).Nodup) (hk : ∀ m, m ∈ ms → TR errs m.val) : Done errs x p names
theorem Done.start {errs : Bool} {x : V4} : Done errs x [x] [] := by
  by_cases h : x.kind = 8
  · exact .obj h [] (by simp [nodesL]) rfl (by simp) (by simp) (by simp)
  · exact .list h [] (by simp [nodesL]) (by simp)
theorem Done.more_list {errs : Bool} {x : V4} {p q : List V4} {names names' : List ByteArray} (h : Done errs x p names) (h8 : x.kind ≠ 8) {s : Tr} (hq : nodes s = q) (hs : TR errs s) : Done errs x (p ++ q) names' := by
  cases h with
  | list _ ks hp hk =>
    refine .list h8 (ks ++ [s]) (by rw [hp, nodesL_append]; simp [nodesL, hq]) fun s' hs' => ?_
    rcases List.mem_append.1 hs' with h1 | h1
    · exact hk s' h1
    · rw [List.mem_singleton.1 h1]; exact hs
  | obj h _ _ _ _ _ => exact absurd h h8
theorem Done.more_obj {errs : Bool} {x : V4} {p q : List V4} {names : List ByteArray} (h : Done errs x p names) (h8 : x.kind = 8) {n : Nat} {name : ByteArray} {s : Tr} (hq : nodes (.mk 9 n name [s]) = q) (hn : numZero n = true) (hl : name.size ≤ 100) (hnew : name ∉ names) (hs : TR errs s) :
    Done errs x (p ++ q) (names ++ [name]) := by
  cases h with
  | list h _ _ _ => exact absurd h8 h
  | obj _ ms hp hns hz hd hk =>
    refine .obj h8 (ms ++ [⟨n, name, s⟩]) (by rw [hp, List.map_append, nodesL_append]; simp [nodesL, Mb.tree, hq]) (by rw [hns]; simp) (fun m hm => ?_) ?_ (fun m hm => ?_)
    · rcases List.mem_append.1 hm with h1 | h1
      · exact hz m h1
      · rw [List.mem_singleton.1 h1]; exact ⟨hn, hl⟩
    · rw [List.map_append, List.nodup_append]
      refine ⟨hd, by simp, fun a ha b hb => ?_⟩
      simp only [List.map_cons, List.map_nil, List.mem_singleton] at hb
      subst hb
      rw [← hns] at ha
      exact fun e => hnew (e ▸ ha)
    · rcases List.mem_append.1 hm with h1 | h1
      · exact hk m h1
      · rw [List.mem_singleton.1 h1]; exact hs
theorem Done.whole {errs : Bool} {x : V4} {v : List V4} {names : List ByteArray} (h : Done errs x v names) (hx : x.size = v.length) (hk : x.kind = 7 ∨ x.kind = 8) (hn : numZero x.num = true) (ht : x.text.toList.isEmpty = true) : ∃ t, nodes t = v ∧ TR errs t := by
  have ht := bytes_empty ht
  obtain ⟨xk, xn, xt, xs⟩ := x
  dsimp only at *
  subst ht
  cases h with
  | list h8 ks hp hks =>
    obtain rfl : xk = 7 := hk.resolve_right h8
    refine ⟨.mk 7 xn ⟨#[]⟩ ks, ?_, .list xn ks hn hks⟩
    rw [hp] at hx ⊢
    simp only [List.length_cons] at hx
    rw [nodes, hx, Int.natCast_add]
    simp [Int.add_comm]
  | obj h8 ms hp hns hz hd hks =>
    obtain rfl : xk = 8 := h8
    refine ⟨.mk 8 xn ⟨#[]⟩ (ms.map Mb.tree), ?_, .obj xn ms hn hz hd hks⟩
    rw [hp] at hx ⊢
    simp only [List.length_cons] at hx
    rw [nodes, hx, Int.natCast_add]
    simp [Int.add_comm]
/-- A leaf's tree. -/
theorem leaf_tree {errs : Bool} {U : ByteArray → Bool} {v : List V4} {x : V4} (hx : v.head? = some x) (hh : headR v.length x = true) (hl : leafR U errs v.length x = true) : ∃ t, nodes t = v ∧ TR errs t := by
  obtain ⟨xk, xn, xt, xs⟩ := x
  unfold headR at hh
  rw [Bool.and_eq_true, Bool.and_eq_true] at hh
  obtain ⟨⟨e1, e2⟩, e3⟩ := hh
  have e1 : xs = (v.length : Int) := of_decide_eq_true e1
  dsimp only at e2 e3
  have one : v.length = 1 → v = [⟨xk, xn, xt, 1⟩] := fun h => by
    obtain ⟨y, rfl⟩ := List.length_eq_one_iff.1 h
    simp at hx
    subst hx
    simp at e1
    rw [e1]
  have hnz : xk ≠ 4 → xk ≠ 5 → numZero xn = true := fun h4 h5 => by
    rw [decide_eq_false h4, decide_eq_false h5, Bool.false_or, Bool.false_or] at e2; exact e2
  have hte : xk ≠ 6 → xk ≠ 9 → xt = ⟨#[]⟩ := fun h6 h9 => by
    rw [decide_eq_false h6, decide_eq_false h9, Bool.false_or, Bool.false_or] at e3; exact bytes_empty e3
  unfold leafR at hl
  dsimp only at hl
  split at hl
  · rename_i hk
    have h1 := one (of_decide_eq_true hl)
    obtain rfl := hte (by omega) (by omega)
    have hz := hnz (by omega) (by omega)
    rcases hk with rfl | rfl | rfl
    · exact ⟨_, by rw [h1]; simp [nodes, nodesL], .nul xn hz⟩
    · exact ⟨_, by rw [h1]; simp [nodes, nodesL], .tru xn hz⟩
    · exact ⟨_, by rw [h1]; simp [nodes, nodesL], .fls xn hz⟩
  · split at hl
    · rename_i hk
      subst hk
      rw [Bool.and_eq_true] at hl
      have h1 := one (of_decide_eq_true hl.2)
      obtain rfl := hte (by omega) (by omega)
      exact ⟨_, by rw [h1]; simp [nodes, nodesL], .err xn (hnz (by omega) (by omega)) hl.1⟩
    · split at hl
      · rename_i hk
        subst hk
        rw [Bool.and_eq_true] at hl
        have h1 := one (of_decide_eq_true hl.1)
        obtain rfl := hte (by omega) (by omega)
        exact ⟨_, by rw [h1]; simp [nodes, nodesL], .int xn hl.2⟩
      · split at hl
        · rename_i hk
          subst hk
          rw [Bool.and_eq_true] at hl
          have h1 := one (of_decide_eq_true hl.1)
          obtain rfl := hte (by omega) (by omega)
          exact ⟨_, by rw [h1]; simp [nodes, nodesL], .flt xn hl.2⟩
        · split at hl
          · rename_i hk
            subst hk
            rw [Bool.and_eq_true, Bool.and_eq_true] at hl
            have h1 := one (of_decide_eq_true hl.1)
            exact ⟨_, by rw [h1]; simp [nodes, nodesL], .str xn xt (hnz (by omega) (by omega)) (of_decide_eq_true hl.2.1)⟩
          · cases hl
end Go.Proofs.YtdcfbgpcpjjjaaaGreat.Dr
