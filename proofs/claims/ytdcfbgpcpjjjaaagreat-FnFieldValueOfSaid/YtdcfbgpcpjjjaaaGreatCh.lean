/-
  The reference's partsOfRight, walked: where it says yes, the data are a tree.
-/
import Derived.Test.YtdcfbgpcpjjjaaaGreatCd
import Derived.Test.YtdcfbgpcpjjjaaaGreatFt
namespace Go.Proofs.YtdcfbgpcpjjjaaaGreat.Co
open Go.RowKit Go.Proofs.YtdcfbgpcpjjjaaaGreatW.PrintWords Go.Proofs.YtdcfbgpcpjjjaaaGreatW.PrintLast Go.Proofs.YtdcfbgpcpjjjaaaGreatW.PrintMore
open Go.Proofs.YtdcfbgpcpjjjaaaGreat.Fl Go.Proofs.YtdcfbgpcpjjjaaaGreat.Dr Go.Proofs.YtdcfbgpcpjjjaaaGreat.PFnFieldValueOf
set_option linter.unusedVariables false
set_option linter.unusedSimpArgs false
attribute [local go_sem] run_store_float
/-- It is an answer. -/
def Ans (e : Ending) : Prop := ∃ b, e = .returned (.bool b)
theorem Ans.mk (b : Bool) : Ans (.returned (.bool b)) := ⟨b, rfl⟩
/-- An answer; yes only of what q holds of. -/
def AnsQ (q : Prop) (e : Ending) : Prop := ∃ b, e = .returned (.bool b) ∧ (b = true → q)
theorem AnsQ.no (q : Prop) : AnsQ q (.returned (.bool false)) := ⟨false, rfl, fun h => by cases h⟩
theorem AnsQ.yes {q : Prop} (h : q) : AnsQ q (.returned (.bool true)) := ⟨true, rfl, fun _ => h⟩
abbrev IsTree (errs : Bool) (v : List V4) : Prop := ∃ t, nodes t = v ∧ TR errs t
/-- dataRight says yes of trees alone. -/
def Tells16 (d : Nat) : Prop := ∀ (v : List V4) (A : Option Addr) (c : Nat) (errs : Bool) (w : World), Kd.C k27 w A v.length v → 0 < v.length → v.length ≤ 300 → v.length ≤ c → (∀ x, x ∈ v → x.wf) →
  Calls Tryz.prog 12 #[.slice A v.length c, .bool errs, .int .i64 ((d : Int) - 1)] w fun e w' => AnsQ (IsTree errs v) e ∧ Below w.heap.size w w'
/-- The parts' loop: the names so far, and the trees. -/
structure Pn (errs : Bool) (x0 : V4) (v : List V4) (w wr : World) (v7 : Value) (k : Nat) : Prop where
  row : ∃ names : List ByteArray, (names.length ≤ k ∧ Done errs x0 (v.take k) names) ∧ Kd.R Kd.string 9 wr w.heap.size (fun _ => True) v7 names
  grw : Below w.heap.size w wr
theorem Pn.below {errs : Bool} {x0 : V4} {v : List V4} {w wr wr' : World} {v7 : Value} {k : Nat} (h : Pn errs x0 v w wr v7 k) (hb : Below wr.heap.size wr wr') : Pn errs x0 v w wr' v7 k := by
  obtain ⟨⟨names, hn, hr⟩, hg⟩ := h
  exact ⟨⟨names, hn, Kd.R_below hr hb⟩, below_step hg hb⟩
theorem rd_mem {v : List V4} {k : Nat} (h : k < v.length) : rd27 v (k : Int) = v[k] := by
  unfold rd27
  rw [Int.toNat_natCast, List.getD_eq_getElem?_getD, List.getElem?_eq_getElem h]
  rfl
theorem take_more {v : List V4} {k m : Nat} : v.take (k + m) = v.take k ++ (v.take (k + m)).drop k := by
  rw [← List.take_append_drop k (v.take (k + m))]
  congr 1
  · rw [List.take_take]; congr 1; omega
  · rw [List.take_append_drop]
/-- A part more: of a list. -/
theorem Pn.list {errs : Bool} {x0 : V4} {v : List V4} {w wr : World} {v7 : Value} {k m : Nat} (h : Pn errs x0 v w wr v7 k) (h8 : x0.kind ≠ 8) {B : List V4} (hB : B = (v.take (k + m)).drop k) (hT : IsTree errs B) : Pn errs x0 v w wr v7 (k + m) := by
  obtain ⟨⟨names, ⟨hn, hd⟩, hr⟩, hg⟩ := h
  obtain ⟨s, hs, ht⟩ := hT
  exact ⟨⟨names, ⟨by omega, by rw [take_more]; exact hd.more_list h8 (by rw [hs, hB]) ht⟩, hr⟩, hg⟩
/-- A member's nodes. -/
theorem member_nodes {v B : List V4} {k m xn : Nat} {xt : ByteArray} (hk : k + m ≤ v.length) (hm : 1 ≤ m) (hB : B = (v.take (k + m)).drop k) (hx : rd27 v (k : Int) = ⟨9, xn, xt, (m : Int)⟩) {s : Tr} (hs : nodes s = B.drop 1) : nodes (.mk 9 xn xt [s]) = B := by
  have hl : B.length = m := by rw [hB, List.length_drop, List.length_take]; omega
  have h0 : B[0]? = some ⟨9, xn, xt, (m : Int)⟩ := by
    rw [hB, List.getElem?_drop, Nat.add_zero, List.getElem?_take, if_pos (by omega), List.getElem?_eq_getElem (by omega), ← rd_mem (by omega), hx]
  have hc : B = ⟨9, xn, xt, (m : Int)⟩ :: B.drop 1 := by
    cases B with
    | nil => simp at h0
    | cons b r => simp at h0; simp [h0]
  rw [nodes, nodesL, nodesL, List.append_nil, hs]
  rw [List.length_drop, hl]
  conv => rhs; rw [hc]
  congr 2
  omega
theorem Pn.obj {errs : Bool} {x0 : V4} {v : List V4} {w wr : World} {v7 : Value} {k m : Nat} {names : List ByteArray} (hg : Below w.heap.size w wr) (h8 : x0.kind = 8) (hd : Done errs x0 (v.take k) names) (hn : names.length ≤ k) (hk : k + m ≤ v.length) (hm : 1 ≤ m) {B : List V4} (hB : B = (v.take (k + m)).drop k)
    {xn : Nat} {xt : ByteArray} (hx : rd27 v (k : Int) = ⟨9, xn, xt, (m : Int)⟩) (hz : numZero xn = true) (hl : xt.size ≤ 100) (hnew : xt ∉ names) (hT : IsTree errs (B.drop 1)) (hr : Kd.R Kd.string 9 wr w.heap.size (fun _ => True) v7 (names ++ [xt])) : Pn errs x0 v w wr v7 (k + m) := by
  obtain ⟨s, hs, ht⟩ := hT
  exact ⟨⟨names ++ [xt], ⟨by rw [List.length_append]; simp only [List.length_cons, List.length_nil]; omega, by rw [take_more]; exact hd.more_obj h8 ((member_nodes hk hm hB hx hs).trans hB) hz hl hnew ht⟩, hr⟩, hg⟩
theorem not_mid {l : List ByteArray} {a : ByteArray} (h : amid l a = false) : a ∉ l := fun hm => by
  unfold amid at h
  rw [List.any_eq_false] at h
  exact h a hm (by simp)
theorem info9 : (Tryz.prog.info? 9).map (fun i => (i.zero, i.size, i.bytes)) = some (some (.string ⟨#[]⟩), 1, 16) := by kernel_rfl
theorem info27x : ∃ i, Tryz.prog.info? 27 = some i ∧ i.size = 4 := by
  have h := info27
  cases hi : Tryz.prog.info? 27 with
  | none => rw [hi] at h; cases h
  | some i => rw [hi] at h; injection h with h; injection h with _ h; injection h with h _; exact ⟨i, rfl, h⟩
set_option maxHeartbeats 40000000 in
set_option maxRecDepth 100000 in
theorem parts_any (d : Nat) (hd : d ≤ 1000) (IH : Tells16 d) (v : List V4) (x0 : V4) (hx0 : x0 = rd27 v 0) (A : Option Addr) (c : Nat) (errs : Bool) (w : World) (h : Kd.C k27 w A v.length v) (h0 : 0 < v.length) (h300 : v.length ≤ 300) (hc : v.length ≤ c) (hw : ∀ x, x ∈ v → x.wf) :
    Calls Tryz.prog 24 #[.slice A v.length c, .bool errs, .int .i64 (d : Int)] w fun e w' => AnsQ (∃ names, Done errs x0 v names) e ∧ Below w.heap.size w w' := by
  have HC := Aside0.mk h
  have HIH := Aside0.mk IH
  have HW := Aside0.mk hw
  have HS : Aside0 (Done errs x0 (v.take 1) []) := ⟨by
    have e : v.take 1 = [x0] := by
      rw [hx0]
      cases v with
      | nil => simp at h0
      | cons a r => rfl
    rw [e]; exact Done.start⟩
  have HX0 := Aside0.mk hx0
  clear h IH hw hx0
  go_enter Tryz.func24, Tryz.ntmps24
  go_wp2_with fail
  go_loopw [7, 8] (fun v7 v8 wr => ∃ k : Nat, 1 ≤ k ∧ k ≤ v.length ∧ v8 = .int .i64 k ∧ Aside0 (Pn errs x0 v w wr v7 k)) (fun _ v8 _ => v.length - (intOf v8).toNat)
  case atStart => exact ⟨1, Nat.le_refl _, h0, rfl, ⟨⟨⟨[], ⟨Nat.zero_le _, HS.out⟩, Kd.R_nil _ _ _ _ _⟩, Below.refl _ _⟩⟩⟩
  case round =>
    obtain ⟨k, hk1, hkv, rfl, HA⟩ := hrel
    by_cases hlt : k < v.length
    · have hki : (k : Int) < (v.length : Int) := by omega
      obtain ⟨ad, rfl, p0, p1, p2, p3⟩ := at_27 (Kd.C_below HC.out HA.out.grw) (k : Int) (by omega) hki
      have HQ : Aside0 (∀ W, Below w.heap.size w W → W.cell? ad = some (.int .i64 x0.kind)) := ⟨fun W hb => by
        obtain ⟨ad', e', q0, -⟩ := at_27 (Kd.C_below HC.out hb) 0 (by omega) (by omega)
        obtain rfl : ad = ad' := by injection e'
        rw [show ad.add (Int.toNat 0 * 4) = ad from Addr.add_zero' ad, ← HX0.out] at q0
        exact q0⟩
      rw [Int.toNat_natCast] at p0 p1 p2 p3
      obtain ⟨x, hx⟩ : ∃ x, x = rd27 v (k : Int) := ⟨_, rfl⟩
      rw [← hx] at p0 p1 p2 p3
      obtain ⟨hk, hhk⟩ : ∃ hk, hk = x0.kind := ⟨_, rfl⟩
      rw [← hhk] at HQ
      have HHK := Aside0.mk hhk
      clear hhk
      obtain ⟨xk, xn, xt, xs⟩ := x
      have hx3 : Aside0 (rd27 v (k : Int) = ⟨xk, xn, xt, xs⟩) := ⟨hx.symm⟩
      clear hx
      dsimp only at p0 p1 p2 p3
      have HB0 := Aside0.mk (fun o : Obj => HA.out.below (below_alloc (Below.refl _ _) o))
      by_cases s1 : xs < 1
      · have s1' : decide (xs < 1) = true := decide_eq_true s1
        go_wp2_with fail
        go_ret
        exact ⟨AnsQ.no _, (HB0.out _).grw⟩
      · have s1' : decide (xs < 1) = false := decide_eq_false s1
        by_cases s2 : (v.length : Int) - k < xs
        · have s2' : decide ((v.length : Int) - k < xs) = true := decide_eq_true s2
          go_wp2_with fail
          go_ret
          exact ⟨AnsQ.no _, (HB0.out _).grw⟩
        · have s2' : decide ((v.length : Int) - k < xs) = false := decide_eq_false s2
          obtain ⟨m, rfl⟩ : ∃ m : Nat, xs = m := ⟨xs.toNat, by omega⟩
          have hw1 : IntKind.i64.wrap ((k : Int) + (m : Int)) = ((k + m : Nat) : Int) := by rw [i64_w, w64 (by omega) (by omega)]; omega
          have hcut := cut_mid 22 27 .i64 .i64 Tryz.underlying22 (Classical.choose_spec info27x).1 4 (Classical.choose_spec info27x).2 (some ad) v.length c (k : Int) ((k + m : Nat) : Int) (by omega) (by omega) (by omega) hc
          simp only [Int.toNat_natCast, Nat.add_sub_cancel_left] at hcut
          have HM := Aside0.mk (fun W hb => Kd.C_mid (Kd.C_below (w1 := W) HC.out hb) (lo := k) (hi := k + m) (by omega) (by omega) hc)
          have hl : ((v.take (k + m)).drop k).length = m := by rw [List.length_drop, List.length_take]; omega
          have hkm : k + m ≤ v.length := by omega
          have hm1 : 1 ≤ m := by omega
          have q0 := HQ.out _ (HB0.out (.cells #[.int .i64 xk, .float .f64 xn, .string xt, .int .i64 m] 27)).grw
          have HP3 : Aside0 (∀ W, Below w.heap.size w W → W.cell? ⟨(ad.add (k * 4)).block, (ad.add (k * 4)).off + 3, none⟩ = some (.int .i64 m)) := ⟨fun W hb => by
            obtain ⟨ad', e', -, -, -, q3⟩ := at_27 (Kd.C_below HC.out hb) (k : Int) (by omega) hki
            obtain rfl : ad = ad' := by injection e'
            rw [Int.toNat_natCast, hx3.out] at q3
            exact q3⟩
          have hdw : wrap64 ((d : Int) - 1) = (d : Int) - 1 := w64 (by omega) (by omega)
          have hwm : ∀ x, x ∈ (v.take (k + m)).drop k → x.wf := fun x hx => HW.out x (List.mem_of_mem_take (List.mem_of_mem_drop hx))
          have HN := Aside0.mk (HB0.out (.cells #[.int .i64 xk, .float .f64 xn, .string xt, .int .i64 m] 27))
          obtain ⟨B, hB⟩ : ∃ B, B = (v.take (k + m)).drop k := ⟨_, rfl⟩
          rw [← hB] at HM hl hwm
          have HBB := Aside0.mk hB
          clear hB
          have hck : ¬ c = k := by omega
          rw [if_neg hck] at hcut HM
          have HI1 := Aside0.mk (fun W (hb : Below w.heap.size w W) => HIH.out B (some (ad.add (k * 4))) (c - k) errs W (HM.out W hb) (by omega) (by omega) (by omega) hwm)
          rw [hl] at HI1
          by_cases k8 : hk = 8
          · subst k8
            have k8' : ((8 : Int) == 8) = true := rfl
            by_cases c1 : xk = 9
            · subst c1
              have c1' : ((9 : Int) != 9) = false := rfl
              cases c2 : numZero xn with
              | false =>
                have c2' := nz_false c2
                go_wp2_with fail
                go_ret
                exact ⟨AnsQ.no _, HN.out.grw⟩
              | true =>
                have c2' := nz_true c2
                by_cases c3 : m < 2
                · have c3' : decide ((m : Int) < 2) = true := decide_eq_true (by omega)
                  go_wp2_with fail
                  go_ret
                  exact ⟨AnsQ.no _, HN.out.grw⟩
                · have c3' : decide ((m : Int) < 2) = false := decide_eq_false (by omega)
                  by_cases c4 : 100 < xt.size
                  · have c4' : decide (100 < (xt.size : Int)) = true := decide_eq_true (by omega)
                    go_wp2_with fail
                    go_ret
                    exact ⟨AnsQ.no _, HN.out.grw⟩
                  · have c4' : decide (100 < (xt.size : Int)) = false := decide_eq_false (by omega)
                    obtain ⟨⟨names, ⟨hnl, hDn⟩, hR⟩, hG⟩ := HN.out
                    obtain ⟨A7, c7, rfl, hc7, hC7⟩ := Kd.R_reads hR
                    have HR := Aside0.mk hR
                    have HC7 := Aside0.mk hC7
                    have HDN := Aside0.mk hDn
                    clear hR hC7 hG hDn
                    go_wp2_with fail
                    refine (utf8_any xt (by omega) _).mono ?_
                    rintro e w1 ⟨rfl, ⟨k1, rfl⟩⟩
                    cases hu : utf xt with
                    | false =>
                      go_wp2_with fail
                      go_ret
                      exact ⟨AnsQ.no _, (HN.out.below (pw_below_drewN (Below.refl _ _) k1)).grw⟩
                    | true =>
                      go_wp2_with fail
                      refine (among_any A7 c7 names xt _ (Kd.C_drewN HC7.out k1) hc7 (by omega)).mono ?_
                      rintro e w2 ⟨rfl, ⟨k2, h2⟩⟩
                      have HN2 : Aside0 (Pn errs x0 v w w2 (.slice A7 names.length c7) k) := ⟨by rw [h2]; exact (HN.out.below (pw_below_drewN (Below.refl _ _) k1)).below (pw_below_drewN (Below.refl _ _) k2)⟩
                      have HR2 : Aside0 (Kd.R Kd.string 9 w2 w.heap.size (fun _ => True) (.slice A7 names.length c7) names) := ⟨by rw [h2]; exact Kd.R_drewN (Kd.R_drewN HR.out k1) k2⟩
                      have hk2 : w2.heap[wr.heap.size]? = some (.cells #[.int .i64 9, .float .f64 xn, .string xt, .int .i64 m] 27) := by rw [h2]; exact blk_new wr _
                      have hk2c : w2.cell? ⟨wr.heap.size, 2, none⟩ = some (.string xt) := (blk_cell hk2 2).trans rfl
                      have hk2l := blk_lt hk2
                      clear h2 hk2
                      cases ha : amid names xt with
                      | true =>
                        go_wp2_with fail
                        go_ret
                        exact ⟨AnsQ.no _, HN2.out.grw⟩
                      | false =>
                        have HNW := Aside0.mk (not_mid ha)
                        obtain ⟨n7, hn7⟩ : ∃ n7, n7 = names.length := ⟨_, rfl⟩
                        have hb7 : w.heap.size ≤ w2.heap.size := HN2.out.grw.size
                        have hl7 : (names.length + 1) * 16 ≤ 140737488355328 := by omega
                        have hcut1 := cut_from 22 27 .i64 Tryz.underlying22 (Classical.choose_spec info27x).1 4 (Classical.choose_spec info27x).2 (some (ad.add (k * 4))) m (c - k) 1 (by omega) (by omega)
                        have hck1 : ¬ c - k = Int.toNat 1 := by have : Int.toNat 1 = 1 := rfl; omega
                        rw [if_neg hck1] at hcut1
                        have HM1 := Aside0.mk (fun W hb => Kd.C_drop (HM.out W hb) (m := 1) (by omega) (c := c - k) (by omega))
                        have hl1 : (B.drop 1).length = m - 1 := by rw [List.length_drop]; omega
                        have HI2 := Aside0.mk (fun W (hb : Below w.heap.size w W) => HIH.out (B.drop 1) _ (c - k - 1) errs W (HM1.out W hb) (by omega) (by omega) (by omega) (fun x hx => hwm x (List.mem_of_mem_drop hx)))
                        rw [hl1, if_neg (show ¬ c - k = 1 by omega)] at HI2
                        go_wp2_with (at_builtin; refine Kd.R_append Kd.string (w0 := w) w.heap.size rfl (.tmp 81) (.tmp 84) 87 9 (.string ⟨#[]⟩) 16 rfl Tryz.underlying87 info9 rfl (by decide) (by decide) (.slice A7 names.length c7) names xt [.string xt] (fun _ => True) (fun _ => False) rfl rfl rfl (fun _ hk => hk.elim) (fun _ _ => trivial) HR2.out HN2.out.grw hb7 hl7 ?_; intro v6 w6 hR6 hB6 hg6 hat6; have HR6 := Aside0.mk hR6; have HB6 := Aside0.mk hB6; clear hR6 hB6 hg6 hat6)
                        refine (HI2.out _ HB6.out).mono ?_
                        rintro e w7 ⟨⟨b, rfl, hq⟩, hb⟩
                        have HG7 := Aside0.mk (below_step HB6.out hb)
                        have HR7 := Aside0.mk (Kd.R_below HR6.out hb)
                        have q3 := HP3.out _ HG7.out
                        have HQ7 := Aside0.mk hq
                        clear hb hq
                        cases b with
                        | false =>
                          go_wp2_with fail
                          go_ret
                          exact ⟨AnsQ.no _, HG7.out⟩
                        | true =>
                          have HN1 : Aside0 (Pn errs x0 v w w7 v6 (k + m)) := ⟨Pn.obj HG7.out HHK.out.symm HDN.out hnl hkm hm1 HBB.out hx3.out c2 (by omega) HNW.out (HQ7.out rfl) HR7.out⟩
                          go_wp2_with fail
                          go_roundw
                          case rel => exact ⟨k + m, by omega, by omega, by go_num, HN1⟩
                          case measure => simp [intOf]; omega
            · have c1' : (xk != 9) = true := by simpa using c1
              go_wp2_with fail
              go_ret
              exact ⟨AnsQ.no _, HN.out.grw⟩
          · have k8' : (hk == 8) = false := beq_eq_false_iff_ne.2 k8
            go_wp2_with fail
            refine (HI1.out _ HN.out.grw).mono ?_
            rintro e w1 ⟨⟨b, rfl, hq⟩, hb⟩
            have HN0 := Aside0.mk (HN.out.below hb)
            have q3 := HP3.out _ HN0.out.grw
            have HQ7 := Aside0.mk hq
            clear hb hq
            cases b with
            | false =>
              go_wp2_with fail
              go_ret
              exact ⟨AnsQ.no _, HN0.out.grw⟩
            | true =>
              have HN1 : Aside0 (Pn errs x0 v w w1 u7 (k + m)) := ⟨HN0.out.list (fun e => k8 (HHK.out.trans e)) HBB.out (HQ7.out rfl)⟩
              go_wp2_with fail
              go_roundw
              case rel => exact ⟨k + m, by omega, by omega, by go_num, HN1⟩
              case measure => simp [intOf]; omega
    · obtain rfl : k = v.length := by omega
      have hki : ¬ ((v.length : Int) < (v.length : Int)) := by omega
      go_wp2_with fail
      go_ret
      exact ⟨AnsQ.yes (by obtain ⟨⟨names, ⟨-, hd⟩, -⟩, -⟩ := HA.out; rw [List.take_length] at hd; exact ⟨names, hd⟩), HA.out.grw⟩
end Go.Proofs.YtdcfbgpcpjjjaaaGreat.Co
