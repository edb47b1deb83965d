/-
  What the walk of putMembers leans on: rows of nodes beside other rows, the members in the order of their names, a look-up in a map of members.
-/
import Derived.Test.YtdcfbgpcpjjjaaaGreatGr
import Derived.Sort.OwnSorted
namespace Go.Proofs.YtdcfbgpcpjjjaaaGreat.Co
open Go.RowKit Go.Proofs.YtdcfbgpcpjjjaaaGreatW.PrintWords Go.Proofs.YtdcfbgpcpjjjaaaGreatW.PrintLast Go.Proofs.YtdcfbgpcpjjjaaaGreatW.PrintMore
open Go.Proofs.YtdcfbgpcpjjjaaaGreat.Fl Go.Proofs.YtdcfbgpcpjjjaaaGreat.Dr Go.Proofs.YtdcfbgpcpjjjaaaGreat.PFnFieldValueOf
open Go.Maps Go.Sort
set_option linter.unusedVariables false
set_option linter.unusedSimpArgs false
theorem row_frame {w w' : World} {base : Nat} {v : Value} {L : List V4} (h : Kd.R k27 27 w base (fun _ => True) v L) (hh : ∀ k, v.ownBlock = some k → w'.heap[k]? = w.heap[k]?) : Kd.R k27 27 w' base (fun _ => True) v L := by
  obtain ⟨h1, inner, ho, hr⟩ := h
  refine ⟨h1, inner, own_frame ho hh, hr.1, fun j p hj => ?_⟩
  have hM := hr.2 j p hj
  have e := k27_open (k27.K_of_M hM)
  rw [e]
  exact k27_mkM _ _ _ _
/-- Another row, or an iterator, of the call's own is written. -/
theorem Out.step {base : Nat} {w wr w2 : World} {l l' : Value} {L : List V4} {row : Option Nat} (h : Out base w l wr l' L) (hg : wr.grownBy w2 row) (h1 : ∀ k, row = some k → w.heap.size ≤ k) (h2 : ∀ k, row = some k → l'.ownBlock ≠ some k) : Out base w l w2 l' L := by
  refine ⟨row_frame h.row fun k hk => hg.block k (Kd.R_lt h.row k hk) (fun e => h2 k e.symm hk), ⟨hg.os.trans h.grw.os, hg.tape.trans h.grw.tape, hg.output.trans h.grw.output, Nat.le_trans h.grw.size hg.size, fun k hk hne => ?_⟩, h.at_⟩
  exact (hg.block k (Nat.lt_of_lt_of_le hk h.grw.size) (fun e => by have := h1 k e.symm; omega)).trans (h.grw.block k hk hne)
/-- A member's name, byte by byte. -/
abbrev nb (m : Mb) : List UInt8 := m.name.data.toList
/-- The members in the order of their names. -/
def sortM (ms : List Mb) : List Mb := ms.mergeSort fun a b => leB (nb a) (nb b)
theorem leB_tr (a b c : List UInt8) (h1 : leB a b = true) (h2 : leB b c = true) : leB a c = true := by simp only [leB, decide_eq_true_eq] at *; exact List.le_trans h1 h2
theorem leB_to (a b : List UInt8) : (leB a b || leB b a) = true := by simp only [leB, Bool.or_eq_true, decide_eq_true_eq]; exact List.le_total a b
theorem sortM_perm (ms : List Mb) : (sortM ms).Perm ms := List.mergeSort_perm _ _
theorem sortM_sorted (ms : List Mb) : ((sortM ms).map nb).Pairwise fun a b => leB a b = true := by
  rw [List.pairwise_map]
  exact List.pairwise_mergeSort (le := fun a b => leB (nb a) (nb b)) (fun a b c => leB_tr (nb a) (nb b) (nb c)) (fun a b => leB_to (nb a) (nb b)) ms
theorem sortM_names {ms : List Mb} {ss : List (List UInt8)} (h : ss.Perm (ms.map nb)) : ss.mergeSort leB = (sortM ms).map nb := by
  refine List.Perm.eq_of_pairwise (le := fun a b => leB a b = true) (fun a b _ _ h1 h2 => ?_) (List.pairwise_mergeSort leB_tr leB_to ss) (sortM_sorted ms) (((List.mergeSort_perm ss leB).trans h).trans ((sortM_perm ms).map nb).symm)
  simp only [leB, decide_eq_true_eq] at h1 h2
  exact List.le_antisymm h1 h2
theorem name_bytes (m : Mb) : (⟨(nb m).toArray⟩ : ByteArray) = m.name := by cases m with | mk a b c => cases b; simp [nb]
theorem names_enc (l : List Mb) : (l.map nb).map encStr = encs Value.string (l.map Mb.name) := by
  simp only [encs, List.map_map]
  refine List.map_congr_left fun m _ => ?_
  show encStr (nb m) = Value.string m.name
  rw [← name_bytes m]
theorem keyL_name (m : Mb) : keyL m.name = .string (nb m) := rfl
theorem keyL_of (x : List UInt8) : (.string x : Lit) = keyL ⟨x.toArray⟩ := by simp [keyL]
theorem nb_nodup {ms : List Mb} (h : (ms.map Mb.name).Nodup) : (ms.map nb).Nodup := by
  rw [List.Nodup, List.pairwise_map] at h ⊢
  exact h.imp fun {a b} hne e => hne (ByteArray.ext (Array.toList_inj.1 e))
theorem mem_nb {ms : List Mb} (x : List UInt8) : x ∈ ms.map nb ↔ (⟨x.toArray⟩ : ByteArray) ∈ ms.map Mb.name := by
  rw [List.mem_map, List.mem_map]
  constructor
  · rintro ⟨m, hm, rfl⟩; exact ⟨m, hm, (name_bytes m).symm⟩
  · rintro ⟨m, hm, e⟩; exact ⟨m, hm, by rw [nb, e]⟩
/-- The keys of a map of members are their names. -/
theorem keys_perm {w : World} {b N : Nat} {D : DataW Value} {ms : List Mb} {Vm : ByteArray → Value} (hown : w.ownsMap Tryz.prog 9 Rv b N D) (hD : MapOf D ms Vm) (hd : (ms.map Mb.name).Nodup) : (ms.map nb).Perm (strKeys D) :=
  Collected.perm (left := fun _ => false) ⟨nb_nodup hd, fun x => by rw [mem_nb, ← hD.has, ← keyL_of]; simp⟩ hown law9 Tryz.underlying9 (fun _ => rfl)
theorem keys_size {w : World} {b N : Nat} {D : DataW Value} {ms : List Mb} {Vm : ByteArray → Value} (hown : w.ownsMap Tryz.prog 9 Rv b N D) (hD : MapOf D ms Vm) (hd : (ms.map Mb.name).Nodup) : Maps.size D = ms.length := by
  have h := (keys_perm hown hD hd).length_eq
  obtain ⟨es, rfl⟩ := hD.isMap
  simpa [strKeys, Maps.size] using h.symm
/-- A look-up of a key that is there. -/
theorem wpList_lookup_there {P : Program} (w : World) {ops : Array Oper} {rest : List Oper} {o : Oper} {a : Act} {Q : Exit → Act → World → Prop} (hg : o.guard = none) (m x : Operand) (t : TypeId) (hop : o.op = Op.lookup t m x true)
    (k e : TypeId) (K : Keyed P k) (ht : P.underlying t = some (.map k e)) (hz : (zeroValue e).run P w = .ok .nilIface w) (b n : Nat) (D : DataW Value)
    (hm : a.eval m = .map (some b)) (hown : w.ownsMap P k Rv b n D) (key : Value) (kl : Lit) (hx : a.eval x = key) (hkey : keyOf P k key = some kl) (V : Value) (hat : ∀ z, D.atKey kl z = .held V) (hhas : Maps.has D kl = true)
    (hK : wpList P ops Q rest (a.put o.dst (.tuple #[V, .bool true])) w) : wpList P ops Q (o :: rest) a w := by
  refine wpList_lookup_own_ok w hg m x t hop k e K ht Rv hz (.held .nilIface) [] rfl b n D hm hown key kl hx hkey fun v ps hv => ?_
  rw [hat] at hv
  unfold Rv at hv
  simp only [Option.some.injEq, Prod.mk.injEq, DataW.held.injEq] at hv
  obtain ⟨rfl, -⟩ := hv
  rw [hhas]
  exact hK
theorem tree_inj {a b : Mb} (h : a.tree = b.tree) : a = b := by
  cases a; cases b
  simp [Mb.tree] at h
  obtain ⟨rfl, rfl, rfl⟩ := h
  rfl
theorem trees_inj : ∀ {a b : List Mb}, a.map Mb.tree = b.map Mb.tree → a = b
  | [], [], _ => rfl
  | [], b :: r, h => by simp at h
  | a :: r, [], h => by simp at h
  | a :: r, b :: s, h => by
    simp only [List.map_cons, List.cons.injEq] at h
    rw [tree_inj h.1, trees_inj h.2]
theorem RepG.members {w : World} {S : Nat → Prop} {b n : Nat} {ms : List Mb} (h : RepG w S (.iface 64 (.map (some b))) (.mk 8 n ⟨#[]⟩ (ms.map Mb.tree))) :
    ∃ (N : Nat) (D : DataW Value) (Vm : ByteArray → Value), w.ownsMap Tryz.prog 9 Rv b N D ∧ S b ∧ MapOf D ms Vm ∧ ∀ m, m ∈ ms → RepG w S (Vm m.name) m.val := by
  generalize hks : ms.map Mb.tree = ks at h
  cases h with
  | obj _ ms2 _ N D Vm hm hb hD hk =>
    obtain rfl := trees_inj hks
    exact ⟨N, D, Vm, hm, hb, hD, hk⟩
theorem made_len {sms ms' : List Mb} {i : Nat} (hl' : ms'.length = i) (hi : i ≤ sms.length) (hcan : ∀ (j : Nat) (m m' : Mb), sms[j]? = some m → ms'[j]? = some m' → Canon m.val m'.val) : (nodesL (ms'.map Mb.tree)).length = (nodesL ((sms.take i).map Mb.tree)).length := by
  refine nodesL_len (by simp; omega) fun j t t' h1 h2 => ?_
  rw [List.getElem?_map, Option.map_eq_some_iff] at h1 h2
  obtain ⟨m, hm1, rfl⟩ := h1
  obtain ⟨m', hm2, rfl⟩ := h2
  rw [List.getElem?_take] at hm1
  split at hm1
  · rw [tree_len, tree_len, canon_len (hcan j m m' hm1 hm2)]
  · cases hm1
theorem room {ms ms' : List Mb} {i : Nat} (hl' : ms'.length = i) (hi : i < (sortM ms).length) (hcan : ∀ (j : Nat) (m m' : Mb), (sortM ms)[j]? = some m → ms'[j]? = some m' → Canon m.val m'.val) :
    (nodesL (ms'.map Mb.tree)).length + (1 + (nodes (sortM ms)[i].val).length) ≤ (nodesL (ms.map Mb.tree)).length := by
  have h1 := made_len hl' (by omega) hcan
  have h2 := congrArg List.length (nodesL_take ((sortM ms).map Mb.tree) i (by simpa using hi))
  have h3 := nodesL_perm ((sortM_perm ms).map Mb.tree)
  rw [← List.map_take] at h2
  simp only [List.length_append, List.getElem_map, tree_len] at h2
  omega
theorem room_all {ms ms' : List Mb} (hl' : ms'.length = (sortM ms).length) (hcan : ∀ (j : Nat) (m m' : Mb), (sortM ms)[j]? = some m → ms'[j]? = some m' → Canon m.val m'.val) :
    (nodesL (ms'.map Mb.tree)).length = (nodesL (ms.map Mb.tree)).length := by
  have h1 := made_len (sms := sortM ms) hl' (Nat.le_refl _) hcan
  rw [List.take_length] at h1
  rw [h1]
  exact nodesL_perm ((sortM_perm ms).map Mb.tree)
/-- The nodes of an object under way: its head (its size not yet told), its members. -/
def objL (Ls : List V4) (ms' : List Mb) : List V4 := Ls ++ (⟨8, 0, ⟨#[]⟩, 0⟩ :: nodesL (ms'.map Mb.tree) : List V4)
theorem objL_len (Ls : List V4) (ms' : List Mb) : (objL Ls ms').length = Ls.length + 1 + (nodesL (ms'.map Mb.tree)).length := by simp [objL]; omega
/-- A member more. -/
theorem obj_more (Ls : List V4) (ms' : List Mb) (name : ByteArray) (t : Tr) :
    (objL Ls ms' ++ [(⟨9, 0, name, 0⟩ : V4)] ++ nodes t).set (objL Ls ms').length ⟨9, 0, name, ((objL Ls ms' ++ [(⟨9, 0, name, 0⟩ : V4)] ++ nodes t).length : Int) - ((objL Ls ms').length : Int)⟩ = objL Ls (ms' ++ [⟨0, name, t⟩]) := by
  have e : ((objL Ls ms' ++ [(⟨9, 0, name, 0⟩ : V4)] ++ nodes t : List V4).length : Int) - ((objL Ls ms').length : Int) = 1 + ((nodes t).length : Int) := by
    simp only [List.length_append, List.length_cons, List.length_nil]; omega
  rw [e, List.append_assoc, List.set_append_right _ _ (Nat.le_refl _), Nat.sub_self, List.singleton_append, List.set_cons_zero]
  unfold objL
  rw [List.map_append, nodesL_append]
  simp [nodesL, Mb.tree, nodes]
theorem obj_close (Ls : List V4) (ms' : List Mb) :
    (objL Ls ms').set Ls.length ⟨8, 0, ⟨#[]⟩, ((objL Ls ms').length : Int) - (Ls.length : Int)⟩ = Ls ++ nodes (.mk 8 0 ⟨#[]⟩ (ms'.map Mb.tree)) := by
  have e : ((objL Ls ms').length : Int) - (Ls.length : Int) = 1 + ((nodesL (ms'.map Mb.tree)).length : Int) := by
    rw [objL_len]; omega
  rw [e]
  unfold objL
  rw [List.set_append_right _ _ (Nat.le_refl _), Nat.sub_self, List.set_cons_zero, list_nodes]
theorem obj_head (Ls : List V4) (ms' : List Mb) : (objL Ls ms')[Ls.length]? = some ⟨8, 0, ⟨#[]⟩, 0⟩ := by
  unfold objL
  rw [List.getElem?_append_right (Nat.le_refl _), Nat.sub_self]; rfl
theorem mem_head (X : List V4) (x : V4) (r : List V4) : (X ++ [x] ++ r)[X.length]? = some x := by
  rw [List.append_assoc, List.getElem?_append_right (Nat.le_refl _), Nat.sub_self]; rfl
theorem zero20 (w : World) : (zeroValue 20).run Tryz.prog w = .ok .nilIface w := by kernel_rfl
end Go.Proofs.YtdcfbgpcpjjjaaaGreat.Co
