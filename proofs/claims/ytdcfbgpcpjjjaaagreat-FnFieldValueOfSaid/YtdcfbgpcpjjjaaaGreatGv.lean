/-
  Values as Go has them, in memory: which value a tree is.
-/
import Derived.Test.YtdcfbgpcpjjjaaaGreatCb
import Derived.Test.YtdcfbgpcpjjjaaaGreatFt
import Derived.Maps.OwnSet
import Derived.Maps.RangeWalk
import Derived.Laws.OwnMore
import Derived.StringKeys
namespace Go.Proofs.YtdcfbgpcpjjjaaaGreat.Co
open Go.RowKit Go.Proofs.YtdcfbgpcpjjjaaaGreatW.PrintWords
open Go.Proofs.YtdcfbgpcpjjjaaaGreat.Fl Go.Proofs.YtdcfbgpcpjjjaaaGreat.Dr
open Go.ChangeMaps Go.Maps
set_option linter.unusedVariables false
set_option linter.unusedSimpArgs false
/-- An element of a map, as it is. -/
def Rv (v : Value) : Option (DataW Value × List MemPlace) := some (.held v, [])
/-- A key of a map. -/
def keyL (s : ByteArray) : Lit := .string s.data.toList
theorem keyOf_name (s : ByteArray) (h : s.size ≤ maxLen) : keyOf Tryz.prog 9 (.string s) = some (keyL s) := Go.WideMaps.keyOf_string_mk Tryz.underlying9 h
theorem keyL_inj {s t : ByteArray} (h : keyL s = keyL t) : s = t := by
  unfold keyL at h
  injection h with h
  exact ByteArray.ext (Array.toList_inj.1 h)
theorem law9 : Keyed Tryz.prog 9 := string_keyed Tryz.underlying9
/-- What a map of members reads as: each member's value, no other key. -/
structure MapOf (D : DataW Value) (ms : List Mb) (Vm : ByteArray → Value) : Prop where
  isMap : IsMap D
  at_ : ∀ m, m ∈ ms → ∀ z, D.atKey (keyL m.name) z = .held (Vm m.name)
  has : ∀ s : ByteArray, Maps.has D (keyL s) = true ↔ s ∈ ms.map Mb.name
/-- Which value a tree is; its blocks are in S. -/
inductive RepG (w : World) (S : Nat → Prop) : Value → Tr → Prop
  | nul (n : Nat) : RepG w S .nilIface (.mk 1 n ⟨#[]⟩ [])
  | tru (n : Nat) : RepG w S (.iface 4 (.bool true)) (.mk 2 n ⟨#[]⟩ [])
  | fls (n : Nat) : RepG w S (.iface 4 (.bool false)) (.mk 3 n ⟨#[]⟩ [])
  | err (n : Nat) : RepG w S (.iface 70 (.agg #[])) (.mk 10 n ⟨#[]⟩ [])
  | int (n : Nat) (k : Int) (hk : Go.floatToIntVal .f64 n .i64 = some k) (hb : k.natAbs < 2 ^ 53) : RepG w S (.iface 3 (.int .i64 k)) (.mk 4 n ⟨#[]⟩ [])
  | flt (n : Nat) : RepG w S (.iface 25 (.float .f64 n)) (.mk 5 n ⟨#[]⟩ [])
  | str (n : Nat) (t : ByteArray) : RepG w S (.iface 9 (.string t)) (.mk 6 n t [])
  | list (n : Nat) (ks : List Tr) (sv : Value) (Vs : List Value) (hrow : w.ownsRow 0 20 1 sv ks.length Vs) (hS : ∀ k, sv.ownBlock = some k → S k) (hk : ∀ (i : Nat) (V : Value) (t : Tr), Vs[i]? = some V → ks[i]? = some t → RepG w S V t) : RepG w S (.iface 89 sv) (.mk 7 n ⟨#[]⟩ ks)
  | obj (n : Nat) (ms : List Mb) (b N : Nat) (D : DataW Value) (Vm : ByteArray → Value) (hm : w.ownsMap Tryz.prog 9 Rv b N D) (hb : S b) (hD : MapOf D ms Vm) (hk : ∀ m, m ∈ ms → RepG w S (Vm m.name) m.val) : RepG w S (.iface 64 (.map (some b))) (.mk 8 n ⟨#[]⟩ (ms.map Mb.tree))
theorem own_frame {w w' : World} {base n : Nat} {e : TypeId} {size : Nat} {v : Value} {xs : List Value} (h : w.ownsRow base e size v n xs) (hh : ∀ k, v.ownBlock = some k → w'.heap[k]? = w.heap[k]?) : w'.ownsRow base e size v n xs := by
  refine ⟨h.1, ?_⟩
  rcases h.2 with h1 | ⟨g, cap, cur, rfl, hg, hb, r⟩
  · exact .inl h1
  · exact .inr ⟨g, cap, cur, rfl, hg, (hh g rfl).trans hb, r⟩
theorem own_lower {w : World} {base base' n : Nat} {e : TypeId} {size : Nat} {v : Value} {xs : List Value} (h : w.ownsRow base e size v n xs) (hb : base' ≤ base) : w.ownsRow base' e size v n xs := by
  refine ⟨h.1, ?_⟩
  rcases h.2 with h1 | ⟨g, cap, cur, rfl, hg, r⟩
  · exact .inl h1
  · exact .inr ⟨g, cap, cur, rfl, Nat.le_trans hb hg, r⟩
theorem own_block {w : World} {base n : Nat} {e : TypeId} {size : Nat} {v : Value} {xs : List Value} (h : w.ownsRow base e size v n xs) : ∀ k, v.ownBlock = some k → base ≤ k ∧ k < w.heap.size := by
  intro k hk
  rcases h.2 with ⟨rfl, -⟩ | ⟨g, cap, cur, rfl, hg, hb, r⟩
  · simp [Value.ownBlock] at hk
  · simp [Value.ownBlock] at hk
    subst hk
    exact ⟨hg, blk_lt hb⟩
theorem map_frame {w w' : World} {b N : Nat} {D : DataW Value} (h : w.ownsMap Tryz.prog 9 Rv b N D) (hh : w'.heap[b]? = w.heap[b]?) : w'.ownsMap Tryz.prog 9 Rv b N D := by
  obtain ⟨es, clock, hb, r⟩ := h
  exact ⟨es, clock, hh.trans hb, r⟩
theorem RepG.frame {w w' : World} {S S' : Nat → Prop} {V : Value} {t : Tr} (h : RepG w S V t) (hs : ∀ k, S k → S' k ∧ w'.heap[k]? = w.heap[k]?) : RepG w' S' V t := by
  induction h with
  | nul n => exact .nul n
  | tru n => exact .tru n
  | fls n => exact .fls n
  | err n => exact .err n
  | int n k hk hb => exact .int n k hk hb
  | flt n => exact .flt n
  | str n t => exact .str n t
  | list n ks sv Vs hrow hS hk ih => exact .list n ks sv Vs (own_frame hrow fun k hk => (hs k (hS k hk)).2) (fun k hk => (hs k (hS k hk)).1) ih
  | obj n ms b N D Vm hm hb hD hk ih => exact .obj n ms b N D Vm (map_frame hm (hs b hb).2) (hs b hb).1 hD ih
/-- New blocks. -/
abbrev New (B : Nat) (w : World) (k : Nat) : Prop := B ≤ k ∧ k < w.heap.size
theorem RepG.later {w w' : World} {B : Nat} {V : Value} {t : Tr} (h : RepG w (New B w) V t) (hb : Below w.heap.size w w') : RepG w' (New B w') V t :=
  h.frame fun k hk => ⟨⟨hk.1, Nat.lt_of_lt_of_le hk.2 hb.size⟩, hb.block k hk.2⟩
/-- A list of values under way: its row, and what its elements are. -/
structure Lst (B : Nat) (w wr : World) (sv : Value) (n : Nat) (ks : List Tr) (Vs : List Value) : Prop where
  row : wr.ownsRow B 20 1 sv n Vs
  elem : ∀ (i : Nat) (V : Value) (t : Tr), Vs[i]? = some V → ks[i]? = some t → RepG wr (fun k => New B wr k ∧ some k ≠ sv.ownBlock) V t
  grw : Below B w wr
  base : B ≤ wr.heap.size
theorem Lst.below {B : Nat} {w wr w' : World} {sv : Value} {n : Nat} {ks : List Tr} {Vs : List Value} (h : Lst B w wr sv n ks Vs) (hb : Below wr.heap.size wr w') : Lst B w w' sv n ks Vs :=
  ⟨own_frame h.row (fun k hk => hb.block k (own_block h.row k hk).2), fun i V t h1 h2 => (h.elem i V t h1 h2).frame fun k hk => ⟨⟨⟨hk.1.1, Nat.lt_of_lt_of_le hk.1.2 hb.size⟩, hk.2⟩, hb.block k hk.1.2⟩, below_then h.grw h.base hb, Nat.le_trans h.base hb.size⟩
/-- One element more. -/
theorem Lst.more {B : Nat} {w wr w2 w3 : World} {sv sv' V : Value} {n : Nat} {ks : List Tr} {t : Tr} {Vs : List Value} (h : Lst B w wr sv n ks Vs) (hn : ks[n]? = some t) (hV : RepG w2 (New wr.heap.size w2) V t) (hb : Below wr.heap.size wr w2)
    (ho : w3.ownsRow B 20 1 sv' (n + 1) (Vs ++ [V])) (hg : w2.grownBy w3 sv.ownBlock) (hat : sv'.ownBlock = sv.ownBlock ∨ ∃ b, sv'.ownBlock = some b ∧ w2.heap.size ≤ b) (hb3 : Below B w w3) : Lst B w w3 sv' (n + 1) ks (Vs ++ [V]) := by
  have h2 := h.below hb
  have hlt := own_block h.row
  have hB := h.base
  have hl : Vs.length = n := by rw [h.row.1]; omega
  have keep : ∀ {U : Value} {u : Tr}, RepG w2 (fun k => New B w2 k ∧ some k ≠ sv.ownBlock) U u → RepG w3 (fun k => New B w3 k ∧ some k ≠ sv'.ownBlock) U u := fun hU => hU.frame fun k hk => by
    have hl3 := hg.size
    refine ⟨⟨⟨hk.1.1, Nat.lt_of_lt_of_le hk.1.2 hl3⟩, ?_⟩, hg.block k hk.1.2 hk.2⟩
    rcases hat with e | ⟨b, e, hbb⟩
    · rw [e]; exact hk.2
    · rw [e]; intro e2; injection e2 with e2; have := hk.1.2; omega
  refine ⟨ho, fun i U u h1 h3 => ?_, hb3, Nat.le_trans h2.base hg.size⟩
  by_cases hi : i < n
  · rw [List.getElem?_append_left (by omega)] at h1
    exact keep (h2.elem i U u h1 h3)
  · have hi2 : i = n := by
      have := (List.getElem?_eq_some_iff.1 h1).1
      simp at this
      omega
    subst hi2
    rw [List.getElem?_append_right (by omega), hl, Nat.sub_self] at h1
    simp at h1
    subst h1
    rw [hn] at h3
    injection h3 with h3
    subst h3
    exact keep (hV.frame fun k hk => ⟨⟨⟨Nat.le_trans hB hk.1, hk.2⟩, fun e => by have := (hlt k e.symm).2; have := hk.1; omega⟩, rfl⟩)
theorem Lst.start {B : Nat} {w wr : World} {ks : List Tr} {sv : Value} (hr : wr.ownsRow B 20 1 sv 0 []) (hg : Below B w wr) (hB : B ≤ wr.heap.size) : Lst B w wr sv 0 ks [] := ⟨hr, fun i V t h1 _ => by simp at h1, hg, hB⟩
theorem Lst.done {B : Nat} {w wr : World} {sv : Value} {ks : List Tr} {Vs : List Value} (h : Lst B w wr sv ks.length ks Vs) (n : Nat) : RepG wr (New B wr) (.iface 89 sv) (.mk 7 n ⟨#[]⟩ ks) :=
  .list n ks sv Vs (own_lower h.row (Nat.zero_le _)) (fun k hk => own_block h.row k hk) fun i V t h1 h2 => (h.elem i V t h1 h2).frame fun k hk => ⟨hk.1, rfl⟩
theorem MapOf.more {D : DataW Value} {ms : List Mb} {Vm : ByteArray → Value} (h : MapOf D ms Vm) {m : Mb} (hn : m.name ∉ ms.map Mb.name) (V : Value) : MapOf (D.put (keyL m.name) (.held V)) (ms ++ [m]) (fun s => if s = m.name then V else Vm s) := by
  have hkey : WideAt.IsKeyLit (keyL m.name) := by unfold keyL; simp [WideAt.IsKeyLit]
  refine ⟨h.isMap.put _ _, fun m' hm' z => ?_, fun s => ?_⟩
  · rcases List.mem_append.1 hm' with h1 | h1
    · have hne : m'.name ≠ m.name := fun e => hn (e ▸ List.mem_map_of_mem h1)
      rw [atKey_put_other (fun e => hne (keyL_inj e)), if_neg hne]
      exact h.at_ m' h1 z
    · obtain rfl := List.mem_singleton.1 h1
      rw [atKey_put_same h.isMap hkey, if_pos rfl]
  · rw [List.map_append, List.mem_append]
    by_cases e : s = m.name
    · subst e
      rw [has_put_same h.isMap hkey]
      simp
    · rw [has_put_other (fun e2 => e (keyL_inj e2)), h.has]
      simp [e]
theorem mapOf_nil : MapOf (.map []) [] (fun _ => .nilIface) := ⟨isMap_empty, fun m hm => by simp at hm, fun s => by simp [Maps.has]⟩
/-- A map of members under way. -/
structure Mps (B : Nat) (w wr : World) (b : Nat) (ms : List Mb) (D : DataW Value) (Vm : ByteArray → Value) : Prop where
  map : wr.ownsMap Tryz.prog 9 Rv b ms.length D
  of : MapOf D ms Vm
  elem : ∀ m, m ∈ ms → RepG wr (fun k => New B wr k ∧ k ≠ b) (Vm m.name) m.val
  at_ : B ≤ b
  grw : Below B w wr
  base : B ≤ wr.heap.size
theorem Mps.below {B : Nat} {w wr w' : World} {b : Nat} {ms : List Mb} {D : DataW Value} {Vm : ByteArray → Value} (h : Mps B w wr b ms D Vm) (hb : Below wr.heap.size wr w') : Mps B w w' b ms D Vm :=
  ⟨map_frame h.map (hb.block b h.map.lt), h.of, fun m hm => (h.elem m hm).frame fun k hk => ⟨⟨⟨hk.1.1, Nat.lt_of_lt_of_le hk.1.2 hb.size⟩, hk.2⟩, hb.block k hk.1.2⟩, h.at_, below_then h.grw h.base hb, Nat.le_trans h.base hb.size⟩
/-- One member more. -/
theorem Mps.more {B : Nat} {w wr w2 w3 : World} {b : Nat} {ms : List Mb} {m : Mb} {V : Value} {D : DataW Value} {Vm : ByteArray → Value} (h : Mps B w wr b ms D Vm) (hn : m.name ∉ ms.map Mb.name) (hV : RepG w2 (New wr.heap.size w2) V m.val) (hb : Below wr.heap.size wr w2)
    (ho : w3.ownsMap Tryz.prog 9 Rv b (ms.length + 1) (D.put (keyL m.name) (.held V))) (hg : w2.grownBy w3 (some b)) (hb3 : Below B w w3) : Mps B w w3 b (ms ++ [m]) (D.put (keyL m.name) (.held V)) (fun s => if s = m.name then V else Vm s) := by
  have hlt : b < wr.heap.size := h.map.lt
  have hB := h.base
  have h2 := h.below hb
  have keep : ∀ {U : Value} {u : Tr}, RepG w2 (fun k => New B w2 k ∧ k ≠ b) U u → RepG w3 (fun k => New B w3 k ∧ k ≠ b) U u := fun hU => hU.frame fun k hk =>
    ⟨⟨⟨hk.1.1, Nat.lt_of_lt_of_le hk.1.2 hg.size⟩, hk.2⟩, hg.block k hk.1.2 (fun e => hk.2 (by injection e))⟩
  refine ⟨by rw [List.length_append]; exact ho, h.of.more hn V, fun m' hm' => ?_, h.at_, hb3, Nat.le_trans h2.base hg.size⟩
  rcases List.mem_append.1 hm' with h3 | h3
  · have hne : m'.name ≠ m.name := fun e => hn (e ▸ List.mem_map_of_mem h3)
    rw [if_neg hne]
    exact keep (h2.elem m' h3)
  · obtain rfl := List.mem_singleton.1 h3
    rw [if_pos rfl]
    exact keep (hV.frame fun k hk => ⟨⟨⟨Nat.le_trans hB hk.1, hk.2⟩, fun e => by have := hk.1; omega⟩, rfl⟩)
theorem Mps.done {B : Nat} {w wr : World} {b : Nat} {ms : List Mb} {D : DataW Value} {Vm : ByteArray → Value} (h : Mps B w wr b ms D Vm) (n : Nat) : RepG wr (New B wr) (.iface 64 (.map (some b))) (.mk 8 n ⟨#[]⟩ (ms.map Mb.tree)) :=
  .obj n ms b _ D Vm h.map ⟨h.at_, h.map.lt⟩ h.of fun m hm => (h.elem m hm).frame fun k hk => ⟨hk.1, rfl⟩
end Go.Proofs.YtdcfbgpcpjjjaaaGreat.Co
