/-
  impl.membersOf, walked: an object's members as a map. goOf at every tree.
-/
import Derived.Test.YtdcfbgpcpjjjaaaGreatGm
namespace Go.Proofs.YtdcfbgpcpjjjaaaGreat.Co
open Go.RowKit Go.Proofs.YtdcfbgpcpjjjaaaGreatW.PrintWords Go.Proofs.YtdcfbgpcpjjjaaaGreatW.PrintLast Go.Proofs.YtdcfbgpcpjjjaaaGreatW.PrintMore
open Go.Proofs.YtdcfbgpcpjjjaaaGreat.Fl Go.Proofs.YtdcfbgpcpjjjaaaGreat.Dr Go.Proofs.YtdcfbgpcpjjjaaaGreat.PFnFieldValueOf
open Go.Maps (Keyed)
set_option linter.unusedVariables false
set_option linter.unusedSimpArgs false
attribute [local go_sem] run_store_float
/-- The nodes at a member's place. -/
structure MbAt (v : List V4) (k : Nat) (ms : List Mb) (i : Nat) (E kk m : Nat) (mb : Mb) : Prop where
  mem : ms[i]? = some mb
  kid : (v.take E).drop (kk + 1) = nodes mb.val ++ nodesL ((ms.map Mb.tree).drop (i + 1))
  at0 : ∃ r, v.drop kk = ⟨9, mb.num, mb.name, (m : Int)⟩ :: r
  at1 : ∃ x r, v.drop (kk + 1) = x :: r ∧ x.size = (m : Int) - 1
  m2 : 2 ≤ m
  mE : kk + m ≤ E
  next : kk + m = k + 1 + (nodesL ((ms.take (i + 1)).map Mb.tree)).length
theorem mbAt {v : List V4} {k : Nat} {x : V4} {ms : List Mb} {post : List V4} (hv : v.drop k = x :: (nodesL (ms.map Mb.tree) ++ post)) {i : Nat} (hi : i < ms.length) {E kk : Nat} (hE : E = k + 1 + (nodesL (ms.map Mb.tree)).length) (hkk : kk = k + 1 + (nodesL ((ms.take i).map Mb.tree)).length) :
    MbAt v k ms i E kk (1 + (nodes ms[i].val).length) ms[i] := by
  have hi' : i < (ms.map Mb.tree).length := by simpa using hi
  have K := kidAt (kk := kk) hv hi' hE (by rw [hkk, List.map_take])
  have hg : (ms.map Mb.tree).getD i (.mk 0 0 ⟨#[]⟩ []) = ms[i].tree := by simp [hi]
  have hg2 : (ms.map Mb.tree)[i] = ms[i].tree := by simp
  have hn : ∀ r, nodes ms[i].tree ++ r = ⟨9, ms[i].num, ms[i].name, ((1 + (nodes ms[i].val).length : Nat) : Int)⟩ :: (nodes ms[i].val ++ r) := fun r => by simp [Mb.tree, nodes, nodesL]
  have hlen : (nodes ms[i].tree).length = 1 + (nodes ms[i].val).length := by simp [Mb.tree, nodes, nodesL]; omega
  rw [hg2, hlen] at K
  obtain ⟨r, hr⟩ := K.full
  rw [hg, hn] at hr
  have hh := K.here
  rw [hg, hn] at hh
  have hr1 : v.drop (kk + 1) = nodes ms[i].val ++ r := by rw [← List.drop_drop, hr]; rfl
  refine ⟨List.getElem?_eq_getElem hi, by rw [← List.drop_drop, hh]; rfl, ⟨_, hr⟩, ?_, by have := nodes_pos ms[i].val; omega, K.mE, by rw [K.next, List.map_take]⟩
  generalize ms[i].val = s at hr1 ⊢
  obtain ⟨a, b, c, d⟩ := s
  simp only [nodes] at hr1
  exact ⟨_, _, hr1, by simp [nodes]; omega⟩
/-- The loop over the members of an object. -/
def MRel (w : World) (b k : Nat) (ms : List Mb) (v9 : Value) (wr : World) : Prop :=
  ∃ (i kk : Nat) (D : DataW Value) (Vm : ByteArray → Value), i ≤ ms.length ∧ v9 = .int .i64 kk ∧ kk = k + 1 + (nodesL ((ms.take i).map Mb.tree)).length ∧ Mps w.heap.size w wr b (ms.take i) D Vm
set_option maxHeartbeats 4000000 in
set_option maxRecDepth 100000 in
theorem membersOf_any (n : Nat) (ms : List Mb) (hz : ∀ m, m ∈ ms → m.name.size ≤ 100) (hd : (ms.map Mb.name).Nodup) (IH : ∀ m, m ∈ ms → GoesAt m.val) (v : List V4) (k : Nat) (post : List V4) (A : Option Addr) (c : Nat) (w : World) (L : Nat) (hL : L = (nodesL (ms.map Mb.tree)).length)
    (hv : v.drop k = ⟨8, n, ⟨#[]⟩, 1 + (L : Int)⟩ :: (nodesL (ms.map Mb.tree) ++ post)) (hC : Kd.C k27 w A v.length v) (hc : v.length ≤ c) (h300 : v.length ≤ 300) :
    Calls Tryz.prog 34 #[.slice A v.length c, .int .i64 k, .int .i64 ((k : Int) + 1 + (L : Int))] w fun e w' => ∃ V, e = .returned (.tuple #[V, .bool true]) ∧ RepG w' (New w.heap.size w') V (.mk 8 n ⟨#[]⟩ (ms.map Mb.tree)) ∧ Below w.heap.size w w' := by
  obtain ⟨ad, rfl, -, hk⟩ := atN hC hv
  have hEl : k + 1 + L ≤ v.length := by
    have := congrArg List.length hv
    rw [List.length_drop] at this
    simp at this
    omega
  have hw2 : IntKind.i64.wrap ((k : Int) + 1) = ((k + 1 : Nat) : Int) := by rw [i64_w, w64 (by omega) (by omega)]; omega
  have HC := Aside0.mk hC
  have HV := Aside0.mk hv
  have HIH := Aside0.mk IH
  have HL := Aside0.mk hL
  have HZ := Aside0.mk hz
  have HD := Aside0.mk hd
  have hmm := @run_makeMap Tryz.prog
  have HM0 : Aside0 (MRel w w.heap.size k ms (.int .i64 ((k + 1 : Nat) : Int)) (w.alloc (.map #[] 0))) := ⟨⟨0, k + 1, .map [], fun _ => .nilIface, Nat.zero_le _, rfl, by simp [nodesL], World.ownsMap_made _ _ _ _, mapOf_nil, fun m hm => by simp at hm, Nat.le_refl _, below_one _ _, (below_one _ _).size⟩⟩
  clear hC hv IH hL hz hd
  go_enter Tryz.func34, Tryz.ntmps34
  go_wp2_with fail
  go_loopw [9] (fun v9 wr => MRel w w.heap.size k ms v9 wr) (fun v9 _ => 1000 - (intOf v9).toNat)
  case atStart => exact HM0.out
  case round =>
    obtain ⟨i, kk, D, Vm, hi, rfl, hkk, hA⟩ := hrel
    have HKK := Aside0.mk hkk
    have HA := Aside0.mk hA
    clear hkk hA
    by_cases hlt : i < ms.length
    · have K := Aside0.mk (mbAt HV.out hlt (E := k + 1 + L) (kk := kk) (by rw [← HL.out]) HKK.out)
      obtain ⟨m, hm⟩ : ∃ m, m = 1 + (nodes ms[i].val).length := ⟨_, rfl⟩
      obtain ⟨mb, hmb⟩ : ∃ mb, mb = ms[i] := ⟨_, rfl⟩
      have HMB : Aside0 (mb ∈ ms) := ⟨hmb ▸ List.getElem_mem hlt⟩
      have HGO := Aside0.mk (HIH.out mb HMB.out)
      have HZM := HZ.out mb HMB.out
      have HNEW : Aside0 (mb.name ∉ (ms.take i).map Mb.name) := ⟨by
        have hnd := HD.out
        rw [← List.take_append_drop i ms, List.map_append, List.nodup_append] at hnd
        intro hin
        exact hnd.2.2 mb.name hin mb.name (List.mem_map_of_mem (by rw [hmb, List.drop_eq_getElem_cons hlt]; exact List.mem_cons_self)) rfl⟩
      have HTK : Aside0 (ms.take (i + 1) = ms.take i ++ [mb]) := ⟨by rw [List.take_add_one, List.getElem?_eq_getElem hlt, hmb]; rfl⟩
      rw [← hm, ← hmb] at K
      clear hmb hm
      have hm2 := K.out.m2
      have hmE := K.out.mE
      have hw1 : (1 : Nat) ≤ m := by omega
      obtain ⟨r0, hat0⟩ := K.out.at0
      obtain ⟨x1, r1, hat1, hx1⟩ := K.out.at1
      have HAT0 := Aside0.mk hat0
      have HAT1 := Aside0.mk hat1
      clear hat0 hat1
      obtain ⟨ad', e', ⟨p0, -, p2, p3, hl⟩, hkv⟩ := atN (Kd.C_below HC.out HA.out.grw) HAT0.out
      obtain rfl : ad = ad' := by injection e'
      obtain ⟨ad', e'', ⟨-, -, -, q3, hl1⟩, hkv1⟩ := atN (Kd.C_below HC.out HA.out.grw) HAT1.out
      obtain rfl : ad = ad' := by injection e''
      rw [hx1] at q3
      clear e' e'' hx1
      obtain ⟨mn, mname, mval⟩ := mb
      dsimp only at p0 p2 p3 HZM HGO HNEW
      have hkE : (kk : Int) < (k : Int) + 1 + (L : Int) := by omega
      have hki0 : (kk : Int) < (v.length : Int) := by omega
      have hki1 : (kk : Int) + 1 < (v.length : Int) := by omega
      have hd1 : decide ((m : Int) < 2) = false := decide_eq_false (by omega)
      have hd2 : decide ((k : Int) + 1 + (L : Int) - (kk : Int) < (m : Int)) = false := decide_eq_false (by omega)
      have hwk : IntKind.i64.wrap ((kk : Int) + (m : Int)) = ((kk + m : Nat) : Int) := by rw [i64_w, w64 (by omega) (by omega)]; omega
      have hwk1 : IntKind.i64.wrap ((kk : Int) + 1) = ((kk + 1 : Nat) : Int) := by rw [i64_w, w64 (by omega) (by omega)]; omega
      have hwm : IntKind.i64.wrap ((m : Int) - 1) = (m : Int) - 1 := by rw [i64_w, w64 (by omega) (by omega)]
      have hwe : IntKind.i64.wrap ((k : Int) + 1 + (L : Int) - (kk : Int)) = (k : Int) + 1 + (L : Int) - (kk : Int) := by rw [i64_w, w64 (by omega) (by omega)]
      have hcutE := cut_to 22 27 .i64 Tryz.underlying22 (Classical.choose_spec info27x).1 (some ad) v.length c ((k : Int) + 1 + (L : Int)) (by omega) (by omega) hc
      have eE : ((k : Int) + 1 + (L : Int)).toNat = k + 1 + L := by omega
      rw [eE] at hcutE
      have HQ : Aside0 (∀ W, Below w.heap.size w W → W.cell? ⟨(ad.add (kk * 4)).block, (ad.add (kk * 4)).off + 2, none⟩ = some (.string mname) ∧ W.cell? ⟨(ad.add (kk * 4)).block, (ad.add (kk * 4)).off + 3, none⟩ = some (.int .i64 m)) := ⟨fun W hb => by
        obtain ⟨ad', e', ⟨-, -, q2, q3, -⟩, -⟩ := atN (Kd.C_below HC.out hb) HAT0.out
        obtain rfl : ad = ad' := by injection e'
        exact ⟨q2, q3⟩⟩
      have hlE : (v.take (k + 1 + L)).length = k + 1 + L := by rw [List.length_take]; omega
      have HX := Aside0.mk (HGO.out (v.take (k + 1 + L)) (kk + 1) (nodesL ((ms.map Mb.tree).drop (i + 1))) (some ad) c wr.drew K.out.kid (Kd.C_take (Kd.C_drew (Kd.C_below HC.out HA.out.grw)) hEl) (by omega) (by omega))
      rw [hlE] at HX
      have hil : (ms.take i).length < maxLen := by
        have h1 := HKK.out
        have h3 := nodesL_ge (ms.map Mb.tree) i (by rw [List.length_map]; omega)
        rw [← List.map_take] at h3
        have h4 : (ms.take i).length ≤ i := by rw [List.length_take]; omega
        unfold maxLen
        omega
      have hkey := keyOf_name mname (by unfold maxLen; omega)
      have HAd := Aside0.mk (HA.out.below (below_drew (Below.refl _ _)))
      have hmi : m ≤ 300 := by omega
      go_wp2_with fail
      go_region
      go_wp2_with fail
      refine HX.out.mono ?_
      rintro e w2 ⟨V, rfl, hV, hb⟩
      have HA2 := Aside0.mk (HAd.out.below hb)
      have HV2 := Aside0.mk hV
      have HB2 := Aside0.mk hb
      have q2 := (HQ.out _ HA2.out.grw).1
      clear hV hb p0 p2 p3 q3
      go_wp2_with (at_mapUpdate; refine wpList_mapUpdate_own _ rfl _ _ _ 64 rfl 9 20 law9 Tryz.underlying64 Rv w.heap.size (ms.take i).length D rfl HA2.out.map hil _ _ (keyL mname) rfl rfl hkey (.held V) [] rfl ?_; intro w3 hown3 hgrow3; have HN := Aside0.mk (HAd.out.more (m := ⟨mn, mname, mval⟩) HNEW.out HV2.out HB2.out hown3 hgrow3 (pw_below_grown HA2.out.grw _ HA2.out.base hgrow3 (fun k e => by injection e with e; omega))); have q3 := (HQ.out _ HN.out.grw).2; clear hown3 hgrow3)
      go_roundw
      case rel => exact ⟨i + 1, kk + m, _, _, hlt, by go_num, K.out.next, by rw [HTK.out]; exact HN.out⟩
      case measure => simp [intOf]; omega
    · obtain rfl : i = ms.length := by omega
      have hkk := HKK.out
      rw [List.take_length, ← HL.out] at hkk
      subst hkk
      have hkE : ¬ (((k + 1 + L : Nat) : Int) < (k : Int) + 1 + (L : Int)) := by omega
      have HD : Aside0 (RepG wr (New w.heap.size wr) (.iface 64 (.map (some w.heap.size))) (.mk 8 n ⟨#[]⟩ (ms.map Mb.tree))) := ⟨by have := HA.out.done n; rw [List.take_length] at this; exact this⟩
      go_wp2_with fail
      go_ret2
      exact ⟨_, rfl, HD.out, HA.out.grw⟩
end Go.Proofs.YtdcfbgpcpjjjaaaGreat.Co
