/-
  impl.closed, and impl.putTyped at a value without parts, walked.
-/
import Derived.Test.YtdcfbgpcpjjjaaaGreatGp
import Derived.Sort.KeysCollected
namespace Go.Proofs.YtdcfbgpcpjjjaaaGreat.Co
open Go.RowKit Go.Proofs.YtdcfbgpcpjjjaaaGreatW.PrintWords Go.Proofs.YtdcfbgpcpjjjaaaGreatW.PrintLast Go.Proofs.YtdcfbgpcpjjjaaaGreatW.PrintMore
open Go.Proofs.YtdcfbgpcpjjjaaaGreat.Fl Go.Proofs.YtdcfbgpcpjjjaaaGreat.Dr Go.Proofs.YtdcfbgpcpjjjaaaGreat.PFnFieldValueOf
open Go.Maps (Keyed)
set_option linter.unusedVariables false
set_option linter.unusedSimpArgs false
attribute [local go_sem] run_store_float
/-- What putTyped makes of a tree: members in the order of their names, numbers as they are written. -/
inductive Canon : Tr → Tr → Prop
  | nul (n : Nat) : Canon (.mk 1 n ⟨#[]⟩ []) (.mk 1 0 ⟨#[]⟩ [])
  | tru (n : Nat) : Canon (.mk 2 n ⟨#[]⟩ []) (.mk 2 0 ⟨#[]⟩ [])
  | fls (n : Nat) : Canon (.mk 3 n ⟨#[]⟩ []) (.mk 3 0 ⟨#[]⟩ [])
  | int (n : Nat) (k : Int) (hk : Go.floatToIntVal .f64 n .i64 = some k) : Canon (.mk 4 n ⟨#[]⟩ []) (.mk 4 (FloatKind.f64.nearest k) ⟨#[]⟩ [])
  | flt (n : Nat) : Canon (.mk 5 n ⟨#[]⟩ []) (.mk 5 n ⟨#[]⟩ [])
  | str (n : Nat) (t : ByteArray) : Canon (.mk 6 n t []) (.mk 6 0 t [])
  | list (n : Nat) (ks ks' : List Tr) (hl : ks'.length = ks.length) (hk : ∀ (i : Nat) (t t' : Tr), ks[i]? = some t → ks'[i]? = some t' → Canon t t') : Canon (.mk 7 n ⟨#[]⟩ ks) (.mk 7 0 ⟨#[]⟩ ks')
  | obj (n : Nat) (ms sms ms' : List Mb) (hp : sms.Perm ms) (hs : (sms.map fun m => m.name.data.toList).Pairwise fun a b => leB a b = true) (hl : ms'.length = sms.length)
      (hm : ∀ (i : Nat) (m m' : Mb), sms[i]? = some m → ms'[i]? = some m' → m'.num = 0 ∧ m'.name = m.name) (hk : ∀ (i : Nat) (m m' : Mb), sms[i]? = some m → ms'[i]? = some m' → Canon m.val m'.val) : Canon (.mk 8 n ⟨#[]⟩ (ms.map Mb.tree)) (.mk 8 0 ⟨#[]⟩ (ms'.map Mb.tree))
theorem nodesL_len {ks ks' : List Tr} (hl : ks'.length = ks.length) (h : ∀ (i : Nat) (t t' : Tr), ks[i]? = some t → ks'[i]? = some t' → (nodes t').length = (nodes t).length) : (nodesL ks').length = (nodesL ks).length := by
  induction ks generalizing ks' with
  | nil => cases ks' with
    | nil => rfl
    | cons a r => simp at hl
  | cons t r ih => cases ks' with
    | nil => simp at hl
    | cons t' r' =>
      have h0 := h 0 t t' rfl rfl
      have h1 := ih (ks' := r') (by simpa using hl) (fun i a b ha hb => h (i + 1) a b (by simpa using ha) (by simpa using hb))
      simp only [nodesL, List.length_append]
      omega
theorem nodesL_perm {ks ks' : List Tr} (h : ks.Perm ks') : (nodesL ks).length = (nodesL ks').length := by
  induction h with
  | nil => rfl
  | cons x _ ih => simp only [nodesL, List.length_append]; omega
  | swap x y l => simp only [nodesL, List.length_append]; omega
  | trans _ _ h1 h2 => omega
theorem tree_len (m : Mb) : (nodes m.tree).length = 1 + (nodes m.val).length := by simp [Mb.tree, nodes, nodesL]; omega
theorem canon_len {t t' : Tr} (h : Canon t t') : (nodes t').length = (nodes t).length := by
  induction h with
  | nul n => rfl
  | tru n => rfl
  | fls n => rfl
  | int n k hk => rfl
  | flt n => rfl
  | str n t => rfl
  | list n ks ks' hl hk ih => simp only [nodes, List.length_cons]; rw [nodesL_len hl ih]
  | obj n ms sms ms' hp hs hl hm hk ih =>
    simp only [nodes, List.length_cons]
    rw [nodesL_len (ks := sms.map Mb.tree) (by simpa using hl) (fun i t t' h1 h2 => ?_), nodesL_perm (hp.map Mb.tree)]
    rw [List.getElem?_map, Option.map_eq_some_iff] at h1 h2
    obtain ⟨m, hm1, rfl⟩ := h1
    obtain ⟨m', hm2, rfl⟩ := h2
    rw [tree_len, tree_len, ih i m m' hm1 hm2]
/-- Blocks that are there and are not l's own. -/
abbrev Free (w : World) (l : Value) (k : Nat) : Prop := k < w.heap.size ∧ some k ≠ l.ownBlock
/-- A list of nodes under way: l, behind it l'. -/
structure Out (base : Nat) (w : World) (l : Value) (w' : World) (l' : Value) (Ls : List V4) : Prop where
  row : Kd.R k27 27 w' base (fun _ => True) l' Ls
  grw : w.grownBy w' l.ownBlock
  at_ : l'.ownBlock = l.ownBlock ∨ ∃ b, l'.ownBlock = some b ∧ w.heap.size ≤ b
theorem Out.trans {base : Nat} {w w1 w2 : World} {l l1 l2 : Value} {L1 L2 : List V4} (h : Out base w l w1 l1 L1) (h2 : Out base w1 l1 w2 l2 L2) : Out base w l w2 l2 L2 := by
  refine ⟨h2.row, ⟨h2.grw.os.trans h.grw.os, h2.grw.tape.trans h.grw.tape, h2.grw.output.trans h.grw.output, Nat.le_trans h.grw.size h2.grw.size, fun k hk hne => ?_⟩, ?_⟩
  · refine (h2.grw.block k (Nat.lt_of_lt_of_le hk h.grw.size) (fun e => ?_)).trans (h.grw.block k hk hne)
    rcases h.at_ with e1 | ⟨b, e1, hb⟩
    · exact hne (e.trans e1)
    · rw [e1] at e; injection e with e; omega
  · have := h.grw.size
    rcases h2.at_ with e2 | ⟨b, e2, hb⟩
    · rcases h.at_ with e1 | ⟨b, e1, hb⟩
      · exact .inl (e2.trans e1)
      · exact .inr ⟨b, e2.trans e1, hb⟩
    · exact .inr ⟨b, e2, by omega⟩
theorem Out.free {base : Nat} {w w' : World} {l l' : Value} {L : List V4} (h : Out base w l w' l' L) {V : Value} {t : Tr} (hV : RepG w (Free w l) V t) : RepG w' (Free w' l') V t :=
  hV.frame fun k hk => ⟨⟨Nat.lt_of_lt_of_le hk.1 h.grw.size, by
    rcases h.at_ with e | ⟨b, e, hb⟩
    · rw [e]; exact hk.2
    · rw [e]; intro e2; injection e2 with e2; have := hk.1; omega⟩, h.grw.block k hk.1 hk.2⟩
theorem Out.alloc {base : Nat} {w w' : World} {l l' : Value} {L : List V4} (h : Out base w l w' l' L) (o : Obj) : Out base w l (w'.alloc o) l' L := by
  have hb := below_one w' o
  exact ⟨Kd.R_below h.row hb, ⟨h.grw.os, h.grw.tape, h.grw.output, Nat.le_trans h.grw.size hb.size, fun k hk hne => (hb.block k (Nat.lt_of_lt_of_le hk h.grw.size)).trans (h.grw.block k hk hne)⟩, h.at_⟩
theorem Out.refl {base : Nat} {w : World} {l : Value} {L : List V4} (h : Kd.R k27 27 w base (fun _ => True) l L) : Out base w l w l L := ⟨h, ⟨rfl, rfl, rfl, Nat.le_refl _, fun _ _ _ => rfl⟩, .inl rfl⟩
theorem Out.base_le {base : Nat} {w w' : World} {l l' : Value} {L : List V4} (h : Out base w l w' l' L) (hb : base ≤ w.heap.size) : base ≤ w'.heap.size := Nat.le_trans hb h.grw.size
/-- The size of a node is written. -/
theorem size_set {w : World} {base g n cap : Nat} {L : List V4} (h : Kd.R k27 27 w base (fun _ => True) (.slice (some ⟨g, 0, none⟩) n cap) L) {k : Nat} (hk : k < n) (s : Int) {x : V4} (hx : L[k]? = some x) :
    Kd.R k27 27 (w.setCell ⟨g, k * 4 + 3, none⟩ (.int .i64 s)) base (fun _ => True) (.slice (some ⟨g, 0, none⟩) n cap) (L.set k { x with size := s }) ∧ w.grownBy (w.setCell ⟨g, k * 4 + 3, none⟩ (.int .i64 s)) (some g) := by
  obtain ⟨c, hcl, hM, hcc, hf⟩ := Kd.R_elem h none4 (k : Int) (by omega) (by omega)
  rw [Int.toNat_natCast] at hM hcc hf
  have hx' : L.getD k none4 = x := by rw [List.getD_eq_getElem?_getD, hx]; rfl
  rw [hx'] at hM
  have hcs := k27_open (k27.K_of_M hM)
  subst hcs
  have := Kd.R_seg (d := k27) (okp := fun _ => False) (seg := [.int .i64 s]) (j := 3) (x' := { x with size := s }) h (k : Int) (by omega) (by omega) hcl (by rw [Int.toNat_natCast]; exact hcc) (show 3 + 1 ≤ 4 by decide) (k27_mkM _ _ _ _) (fun _ h => h.elim)
  rw [Int.toNat_natCast] at this
  exact this
set_option maxHeartbeats 4000000 in
theorem closed_any (base : Nat) (l : Value) (L : List V4) (k : Nat) (x : V4) (w : World) (h : Kd.R k27 27 w base (fun _ => True) l L) (hx : L[k]? = some x) (hL : L.length ≤ 1000) :
    Calls Tryz.prog 35 #[l, .int .i64 k] w fun e w' => e = .returned l ∧ Out base w l w' l (L.set k { x with size := (L.length : Int) - k }) := by
  have hk : k < L.length := (List.getElem?_eq_some_iff.1 hx).1
  obtain ⟨g, cap, rfl, hbg, hg, -⟩ := Kd.R_form h (by omega)
  obtain ⟨hS, hG⟩ := size_set h hk ((L.length : Int) - k) hx
  obtain ⟨c, hcl, hM, hcc, hf⟩ := Kd.R_elem h none4 (k : Int) (by omega) (by omega)
  rw [Int.toNat_natCast] at hM hcc hf
  have hcs := k27_open (k27.K_of_M hM)
  subst hcs
  have hx' : L.getD k none4 = x := by rw [List.getD_eq_getElem?_getD, hx]; rfl
  rw [hx'] at hcc
  have c3 : w.cell? ⟨g, k * 4 + 3, none⟩ = some (.int .i64 x.size) := hcc 3 _ rfl
  have f3 : w.frozen? ⟨g, k * 4 + 3, none⟩ = false := hf 3
  have HO : Aside0 (Out base w (.slice (some ⟨g, 0, none⟩) L.length cap) (w.setCell ⟨g, k * 4 + 3, none⟩ (.int .i64 ((L.length : Int) - k))) (.slice (some ⟨g, 0, none⟩) L.length cap) (L.set k { x with size := (L.length : Int) - k })) := ⟨⟨hS, hG, .inl rfl⟩⟩
  have hw1 : IntKind.i64.wrap ((L.length : Int) - (k : Int)) = (L.length : Int) - (k : Int) := by rw [i64_w, w64 (by omega) (by omega)]
  have hkl : (k : Int) < (L.length : Int) := by omega
  clear hcc hf hM hcl hS hG h hx'
  go_enter Tryz.func35, Tryz.ntmps35
  go_wp2_with fail
  go_ret
  exact ⟨rfl, HO.out⟩
/-- What putTyped does at a tree. -/
def PutsAt (t : Tr) : Prop := ∀ (V : Value) (Ls : List V4) (base : Nat) (l : Value) (w : World), Kd.R k27 27 w base (fun _ => True) l Ls → base ≤ w.heap.size → RepG w (Free w l) V t → Ls.length + (nodes t).length ≤ 1000 →
  Calls Tryz.prog 27 #[l, V, .string ⟨#[]⟩, .nilFunc] w fun e w' => ∃ l' t', e = .returned l' ∧ Canon t t' ∧ Out base w l w' l' (Ls ++ nodes t')
set_option maxHeartbeats 4000000 in
set_option maxRecDepth 100000 in
theorem puts_nul (n : Nat) : PutsAt (.mk 1 n ⟨#[]⟩ []) := by
  intro V Ls base l w hR hb hV hl
  have HR := Aside0.mk hR
  obtain ⟨A, cl, rfl⟩ := Kd.R_slice hR
  have hlen : (Ls.length + 1) * 40 ≤ 140737488355328 := by have := nodes_pos (.mk 1 n ⟨#[]⟩ []); omega
  cases hV
  clear hR hl
  go_enter Tryz.func27, Tryz.ntmps27
  go_wp2_with (at_builtin; refine Kd.R_append k27 (w0 := w) base rfl (.tmp 23) (.tmp 25) 22 27 (.agg #[.int .i64 0, .float .f64 0, .string ⟨#[]⟩, .int .i64 0]) 40 rfl Tryz.underlying22 info27 rfl (by decide) (by decide) (.slice A Ls.length cl) Ls ⟨1, 0, ⟨#[]⟩, 1⟩ (cs4 ⟨1, 0, ⟨#[]⟩, 1⟩) (fun _ => True) (fun _ => False) rfl rfl (k27_mkM _ _ _ _) (fun _ hk => hk.elim) (fun _ _ => trivial) HR.out (Below.refl _ _) hb hlen ?_; intro v6 w6 hR6 hB6 hg6 hat6; have HO := Aside0.mk (Out.mk hR6 hg6 hat6); clear hR6 hB6 hg6 hat6)
  go_ret
  exact ⟨_, _, rfl, .nul n, HO.out⟩
set_option maxHeartbeats 4000000 in
set_option maxRecDepth 100000 in
theorem puts_tru (n : Nat) : PutsAt (.mk 2 n ⟨#[]⟩ []) := by
  intro V Ls base l w hR hb hV hl
  have HR := Aside0.mk hR
  obtain ⟨A, cl, rfl⟩ := Kd.R_slice hR
  have hlen : (Ls.length + 1) * 40 ≤ 140737488355328 := by have := nodes_pos (.mk 2 n ⟨#[]⟩ []); omega
  have ta4 : ∀ (W : World) (v : Value), (Instr.typeAssert (.iface 4 v) 20 4 true).run Tryz.prog W = .ok (.tuple #[v, .bool true]) W := fun W v => by kernel_rfl
  cases hV
  clear hR hl
  go_enter Tryz.func27, Tryz.ntmps27
  go_wp2_with (at_builtin; refine Kd.R_append k27 (w0 := w) base rfl (.tmp 31) (.tmp 33) 22 27 (.agg #[.int .i64 0, .float .f64 0, .string ⟨#[]⟩, .int .i64 0]) 40 rfl Tryz.underlying22 info27 rfl (by decide) (by decide) (.slice A Ls.length cl) Ls ⟨2, 0, ⟨#[]⟩, 1⟩ (cs4 ⟨2, 0, ⟨#[]⟩, 1⟩) (fun _ => True) (fun _ => False) rfl rfl (k27_mkM _ _ _ _) (fun _ hk => hk.elim) (fun _ _ => trivial) HR.out (Below.refl _ _) hb hlen ?_; intro v6 w6 hR6 hB6 hg6 hat6; have HO := Aside0.mk (Out.mk hR6 hg6 hat6); clear hR6 hB6 hg6 hat6)
  go_ret
  exact ⟨_, _, rfl, .tru n, HO.out⟩
set_option maxHeartbeats 4000000 in
set_option maxRecDepth 100000 in
theorem puts_fls (n : Nat) : PutsAt (.mk 3 n ⟨#[]⟩ []) := by
  intro V Ls base l w hR hb hV hl
  have HR := Aside0.mk hR
  obtain ⟨A, cl, rfl⟩ := Kd.R_slice hR
  have hlen : (Ls.length + 1) * 40 ≤ 140737488355328 := by have := nodes_pos (.mk 3 n ⟨#[]⟩ []); omega
  have ta4 : ∀ (W : World) (v : Value), (Instr.typeAssert (.iface 4 v) 20 4 true).run Tryz.prog W = .ok (.tuple #[v, .bool true]) W := fun W v => by kernel_rfl
  cases hV
  clear hR hl
  go_enter Tryz.func27, Tryz.ntmps27
  go_wp2_with (at_builtin; refine Kd.R_append k27 (w0 := w) base rfl (.tmp 35) (.tmp 37) 22 27 (.agg #[.int .i64 0, .float .f64 0, .string ⟨#[]⟩, .int .i64 0]) 40 rfl Tryz.underlying22 info27 rfl (by decide) (by decide) (.slice A Ls.length cl) Ls ⟨3, 0, ⟨#[]⟩, 1⟩ (cs4 ⟨3, 0, ⟨#[]⟩, 1⟩) (fun _ => True) (fun _ => False) rfl rfl (k27_mkM _ _ _ _) (fun _ hk => hk.elim) (fun _ _ => trivial) HR.out (Below.refl _ _) hb hlen ?_; intro v6 w6 hR6 hB6 hg6 hat6; have HO := Aside0.mk (Out.mk hR6 hg6 hat6); clear hR6 hB6 hg6 hat6)
  go_ret
  exact ⟨_, _, rfl, .fls n, HO.out⟩
set_option maxHeartbeats 4000000 in
set_option maxRecDepth 100000 in
theorem puts_int (n : Nat) : PutsAt (.mk 4 n ⟨#[]⟩ []) := by
  intro V Ls base l w hR hb hV hl
  have HR := Aside0.mk hR
  obtain ⟨A, cl, rfl⟩ := Kd.R_slice hR
  have hlen : (Ls.length + 1) * 40 ≤ 140737488355328 := by have := nodes_pos (.mk 4 n ⟨#[]⟩ []); omega
  have ta4 : ∀ (W : World) (v : Value), (Instr.typeAssert (.iface 3 v) 20 4 true).run Tryz.prog W = .ok (.tuple #[.bool false, .bool false]) W := fun W v => by kernel_rfl
  have ta3 : ∀ (W : World) (v : Value), (Instr.typeAssert (.iface 3 v) 20 3 true).run Tryz.prog W = .ok (.tuple #[v, .bool true]) W := fun W v => by kernel_rfl
  cases hV with
  | int n j hj hjb =>
  have hcv : ∀ W : World, (convert 3 25 (.int .i64 j)).run Tryz.prog W = .ok (.float .f64 (FloatKind.f64.nearest j)) W := fun W => by kernel_rfl
  clear hR hl
  go_enter Tryz.func27, Tryz.ntmps27
  go_wp2_with (at_builtin; refine Kd.R_append k27 (w0 := w) base rfl (.tmp 42) (.tmp 46) 22 27 (.agg #[.int .i64 0, .float .f64 0, .string ⟨#[]⟩, .int .i64 0]) 40 rfl Tryz.underlying22 info27 rfl (by decide) (by decide) (.slice A Ls.length cl) Ls ⟨4, FloatKind.f64.nearest j, ⟨#[]⟩, 1⟩ (cs4 ⟨4, FloatKind.f64.nearest j, ⟨#[]⟩, 1⟩) (fun _ => True) (fun _ => False) rfl rfl (k27_mkM _ _ _ _) (fun _ hk => hk.elim) (fun _ _ => trivial) HR.out (Below.refl _ _) hb hlen ?_; intro v6 w6 hR6 hB6 hg6 hat6; have HO := Aside0.mk (Out.mk hR6 hg6 hat6); clear hR6 hB6 hg6 hat6)
  go_ret
  exact ⟨_, _, rfl, .int n j hj, HO.out⟩
set_option maxHeartbeats 4000000 in
set_option maxRecDepth 100000 in
theorem puts_flt (n : Nat) : PutsAt (.mk 5 n ⟨#[]⟩ []) := by
  intro V Ls base l w hR hb hV hl
  have HR := Aside0.mk hR
  obtain ⟨A, cl, rfl⟩ := Kd.R_slice hR
  have hlen : (Ls.length + 1) * 40 ≤ 140737488355328 := by have := nodes_pos (.mk 5 n ⟨#[]⟩ []); omega
  have ta4 : ∀ (W : World) (v : Value), (Instr.typeAssert (.iface 25 v) 20 4 true).run Tryz.prog W = .ok (.tuple #[.bool false, .bool false]) W := fun W v => by kernel_rfl
  have ta3 : ∀ (W : World) (v : Value), (Instr.typeAssert (.iface 25 v) 20 3 true).run Tryz.prog W = .ok (.tuple #[.int .i64 0, .bool false]) W := fun W v => by kernel_rfl
  have ta25 : ∀ (W : World) (v : Value), (Instr.typeAssert (.iface 25 v) 20 25 true).run Tryz.prog W = .ok (.tuple #[v, .bool true]) W := fun W v => by kernel_rfl
  cases hV
  clear hR hl
  go_enter Tryz.func27, Tryz.ntmps27
  go_wp2_with (at_builtin; refine Kd.R_append k27 (w0 := w) base rfl (.tmp 51) (.tmp 54) 22 27 (.agg #[.int .i64 0, .float .f64 0, .string ⟨#[]⟩, .int .i64 0]) 40 rfl Tryz.underlying22 info27 rfl (by decide) (by decide) (.slice A Ls.length cl) Ls ⟨5, n, ⟨#[]⟩, 1⟩ (cs4 ⟨5, n, ⟨#[]⟩, 1⟩) (fun _ => True) (fun _ => False) rfl rfl (k27_mkM _ _ _ _) (fun _ hk => hk.elim) (fun _ _ => trivial) HR.out (Below.refl _ _) hb hlen ?_; intro v6 w6 hR6 hB6 hg6 hat6; have HO := Aside0.mk (Out.mk hR6 hg6 hat6); clear hR6 hB6 hg6 hat6)
  go_ret
  exact ⟨_, _, rfl, .flt n, HO.out⟩
set_option maxHeartbeats 4000000 in
set_option maxRecDepth 100000 in
theorem puts_str (n : Nat) (t : ByteArray) : PutsAt (.mk 6 n t []) := by
  intro V Ls base l w hR hb hV hl
  have HR := Aside0.mk hR
  obtain ⟨A, cl, rfl⟩ := Kd.R_slice hR
  have hlen : (Ls.length + 1) * 40 ≤ 140737488355328 := by have := nodes_pos (.mk 6 n t []); omega
  have ta4 : ∀ (W : World) (v : Value), (Instr.typeAssert (.iface 9 v) 20 4 true).run Tryz.prog W = .ok (.tuple #[.bool false, .bool false]) W := fun W v => by kernel_rfl
  have ta3 : ∀ (W : World) (v : Value), (Instr.typeAssert (.iface 9 v) 20 3 true).run Tryz.prog W = .ok (.tuple #[.int .i64 0, .bool false]) W := fun W v => by kernel_rfl
  have ta25 : ∀ (W : World) (v : Value), (Instr.typeAssert (.iface 9 v) 20 25 true).run Tryz.prog W = .ok (.tuple #[.float .f64 0, .bool false]) W := fun W v => by kernel_rfl
  have ta9 : ∀ (W : World) (v : Value), (Instr.typeAssert (.iface 9 v) 20 9 true).run Tryz.prog W = .ok (.tuple #[v, .bool true]) W := fun W v => by kernel_rfl
  cases hV
  clear hR hl
  go_enter Tryz.func27, Tryz.ntmps27
  go_wp2_with (at_builtin; refine Kd.R_append k27 (w0 := w) base rfl (.tmp 59) (.tmp 62) 22 27 (.agg #[.int .i64 0, .float .f64 0, .string ⟨#[]⟩, .int .i64 0]) 40 rfl Tryz.underlying22 info27 rfl (by decide) (by decide) (.slice A Ls.length cl) Ls ⟨6, 0, t, 1⟩ (cs4 ⟨6, 0, t, 1⟩) (fun _ => True) (fun _ => False) rfl rfl (k27_mkM _ _ _ _) (fun _ hk => hk.elim) (fun _ _ => trivial) HR.out (Below.refl _ _) hb hlen ?_; intro v6 w6 hR6 hB6 hg6 hat6; have HO := Aside0.mk (Out.mk hR6 hg6 hat6); clear hR6 hB6 hg6 hat6)
  go_ret
  exact ⟨_, _, rfl, .str n t, HO.out⟩
end Go.Proofs.YtdcfbgpcpjjjaaaGreat.Co
