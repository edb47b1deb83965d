/-
  impl.putMembers, walked: the keys collected, sorted, each member put.
-/
import Derived.Test.YtdcfbgpcpjjjaaaGreatGs0
import Derived.Test.YtdcfbgpcpjjjaaaGreatShelf
namespace Go.Proofs.YtdcfbgpcpjjjaaaGreat.Co
open Go.RowKit Go.Proofs.YtdcfbgpcpjjjaaaGreatW.PrintWords Go.Proofs.YtdcfbgpcpjjjaaaGreatW.PrintLast Go.Proofs.YtdcfbgpcpjjjaaaGreatW.PrintMore
open Go.Proofs.YtdcfbgpcpjjjaaaGreat.Fl Go.Proofs.YtdcfbgpcpjjjaaaGreat.Dr Go.Proofs.YtdcfbgpcpjjjaaaGreat.PFnFieldValueOf
open Go.Maps Go.Sort
set_option linter.unusedVariables false
set_option linter.unusedSimpArgs false
attribute [local go_sem] run_store_float
/-- The loop over the map: the keys so far. -/
def CRel (w6 : World) (b N r : Nat) (D : DataW Value) (v11 : Value) (wr : World) : Prop :=
  ∃ (left : Lit → Bool) (cnt : Nat) (ss : List (List UInt8)), wr.ranges Tryz.prog 9 Rv b r N D left cnt ∧ ss.length + cnt ≤ Maps.size D ∧ wr.ownsRow w6.heap.size 9 1 v11 ss.length (ss.map encStr) ∧ v11 ≠ .slice none 0 0 ∧ Collected D left ss ∧ Below w6.heap.size w6 wr
/-- The loop over the members in order. -/
def QRel (base : Nat) (w : World) (l : Value) (Ls : List V4) (sms : List Mb) (nms : List ByteArray) (B : Nat) (v69 v0 v71 : Value) (wr : World) : Prop :=
  ∃ (i : Nat) (ms' : List Mb), i ≤ sms.length ∧ v71 = .int .i64 i ∧ ms'.length = i ∧ (∀ (j : Nat) (m m' : Mb), sms[j]? = some m → ms'[j]? = some m' → m'.num = 0 ∧ m'.name = m.name) ∧ (∀ (j : Nat) (m m' : Mb), sms[j]? = some m → ms'[j]? = some m' → Canon m.val m'.val) ∧
    Out base w l wr v0 (objL Ls ms') ∧ Kd.R Kd.string 9 wr B (fun _ => True) v69 nms
theorem Out.later {base : Nat} {w w6 wr : World} {l l6 : Value} {L : List V4} (h : Out base w l w6 l6 L) (hb : RowKit.Below w6.heap.size w6 wr) : Out base w l wr l6 L :=
  ⟨Kd.R_below h.row hb, ⟨hb.os.trans h.grw.os, hb.tape.trans h.grw.tape, hb.output.trans h.grw.output, Nat.le_trans h.grw.size hb.size, fun k hk hne => (hb.block k (Nat.lt_of_lt_of_le hk h.grw.size)).trans (h.grw.block k hk hne)⟩, h.at_⟩
theorem size_alloc (w : World) (o : Obj) : (w.alloc o).heap.size = w.heap.size + 1 := Array.size_push ..
set_option maxHeartbeats 4000000 in
set_option maxRecDepth 100000 in
theorem putMembers_any (n : Nat) (ms : List Mb) (hsz : ∀ m, m ∈ ms → m.name.size ≤ 100) (hdn : (ms.map Mb.name).Nodup) (IH : ∀ m, m ∈ ms → PutsAt m.val) (b : Nat) (Ls : List V4) (base : Nat) (l : Value) (w : World)
    (hR : Kd.R k27 27 w base (fun _ => True) l Ls) (hb : base ≤ w.heap.size) (hV : RepG w (Free w l) (.iface 64 (.map (some b))) (.mk 8 n ⟨#[]⟩ (ms.map Mb.tree))) (hl : Ls.length + (1 + (nodesL (ms.map Mb.tree)).length) ≤ 1000) :
    Calls Tryz.prog 36 #[l, .map (some b), .string ⟨#[]⟩, .nilFunc] w fun e w' => ∃ l' t', e = .returned l' ∧ Canon (.mk 8 n ⟨#[]⟩ (ms.map Mb.tree)) t' ∧ Out base w l w' l' (Ls ++ nodes t') := by
  have HR := Aside0.mk hR
  obtain ⟨A, cl, rfl⟩ := Kd.R_slice hR
  have hlen : (Ls.length + 1) * 40 ≤ 140737488355328 := by omega
  obtain ⟨N, D, Vm, hm, hbF, hD, hk⟩ := hV.members
  have HOW := Aside0.mk hm
  have HBF := Aside0.mk hbF
  have HD := Aside0.mk hD
  have HK := Aside0.mk hk
  have HIH := Aside0.mk IH
  have HDN := Aside0.mk hdn
  have HSZ := Aside0.mk hsz
  have hms : ms.length ≤ 1000 := by have := nodesL_ge (ms.map Mb.tree) ms.length (by simp); rw [List.take_of_length_le (by simp)] at this; omega
  have HSD := Aside0.mk (keys_size hm hD hdn)
  have hnf : ∀ W : World, (binOp .neq 81 .nilFunc .nilFunc).run Tryz.prog W = .ok (.bool false) W := fun W => by kernel_rfl
  clear hR hV hm hbF hD hk IH hdn hsz
  go_enter Tryz.func36, Tryz.ntmps36
  go_wp2_with (first
    | (at_builtin; refine Kd.R_append k27 (w0 := w) base rfl (.tmp 24) (.tmp 26) 22 27 (.agg #[.int .i64 0, .float .f64 0, .string ⟨#[]⟩, .int .i64 0]) 40 rfl Tryz.underlying22 info27 rfl (by decide) (by decide) (.slice A Ls.length cl) Ls ⟨8, 0, ⟨#[]⟩, 0⟩ (cs4 ⟨8, 0, ⟨#[]⟩, 0⟩) (fun _ => True) (fun _ => False) rfl rfl (k27_mkM _ _ _ _) (fun _ hk => hk.elim) (fun _ _ => trivial) HR.out (Below.refl _ _) hb hlen ?_; intro v6 w6 hR6 hB6 hg6 hat6; have HO6 := Aside0.mk (Out.mk hR6 hg6 hat6); have HM6 := Aside0.mk (map_frame HOW.out (hg6.block b HBF.out.1 HBF.out.2)); clear hR6 hB6 hg6 hat6)
    | (at_range; refine wpList_range_own _ rfl _ 64 rfl 9 20 law9 Tryz.underlying64 Rv b N D rfl ((HM6.out.alloc _).alloc _) ?_; intro w0 hrg0 hg0 hs0)
    | fail)
  go_frame
  obtain ⟨r, hr⟩ : ∃ r, r = ((w6.alloc (.cells #[] 9)).alloc (.cells #[] 9)).heap.size := ⟨_, rfl⟩
  rw [← hr] at hrg0 ⊢
  have hr2 : r = w6.heap.size + 1 + 1 := by rw [hr, size_alloc, size_alloc]
  have HC0 : Aside0 (CRel w6 b N r D (.slice (some ⟨w6.heap.size + 1, 0, none⟩) 0 0) w0) := ⟨⟨Maps.has D, Maps.size D, [], hrg0, by simp, by
    have := World.ownsRow_lit (base := w6.heap.size) (e := 9) (size := 1) (w6.alloc (.cells #[] 9)) #[] 0 (by rw [size_alloc]; omega) (Nat.zero_le _) rfl
    rw [size_alloc] at this
    exact own_frame this fun k hk => hg0.block k (own_block this k hk).2 (by simp), by simp, Collected.start D,
    pw_below_grown (below_alloc (below_one _ _) _) none (by rw [size_alloc, size_alloc]; omega) hg0 (fun _ h => by cases h)⟩⟩
  have HBL : Aside0 (b < w6.heap.size) := ⟨HM6.out.lt⟩
  have HG6 := Aside0.mk HO6.out.grw
  have HRT := Aside0.mk (Kd.R_lt HO6.out.row)
  have HR2 := Aside0.mk hr2
  clear hrg0 hg0 hs0 hr hr2
  go_loopw [11] (fun v11 wr => CRel w6 b N r D v11 wr) (fun _ wr => wr.rangeLeft b r)
  case atStart => exact HC0.out
  case round =>
    obtain ⟨left, cnt, ss, hrg, hcs, hrow, hnn, hC, hbel⟩ := hrel
    have HRG := Aside0.mk hrg
    have HRO := Aside0.mk hrow
    have HCO := Aside0.mk hC
    have HBE := Aside0.mk hbel
    have HNN := Aside0.mk hnn
    have HCS := Aside0.mk hcs
    clear hrg hrow hC hbel hnn hcs
    go_wp2_with (first
      | (at_next; refine wpList_next_ranges _ rfl _ rfl 9 law9 Rv encStr (fun v : Value => v) (fun key kl hk => by obtain ⟨x, hx, _⟩ := Maps.keyOf_str Tryz.underlying9 hk; exact ⟨x, hx⟩) (fun v y hv => ⟨v, rfl⟩) b r N _ _ _ rfl HRG.out ?_ ?_)
      | fail)
    · intro hc0 hl0
      have hperm : ss.Perm (ms.map nb) := (HCO.out.perm HRG.out.owns law9 Tryz.underlying9 hl0).trans (keys_perm HM6.out HD.out HDN.out).symm
      have hT := sortM_names hperm
      have hsl : ss.length = ((sortM ms).map Mb.name).length := by rw [List.length_map, hperm.length_eq, List.length_map, (sortM_perm ms).length_eq]
      rcases HRO.out.2 with ⟨hnil, -⟩ | ⟨g, cap, cur, rfl, hbase, hbk, h1, h2, h3, h4⟩
      · exact absurd hnil HNN.out
      have hss : ss.length ≤ 1000 := by rw [hsl, List.length_map, (sortM_perm ms).length_eq]; exact hms
      have HC := Aside0.mk (Go.Proofs.Tryz.sort_Strings g 0 cap ss wr (holds_of_block hbk (by simpa using h4)) (blk_lt hbk) (by omega))
      have HR4 : Aside0 (∀ (nn : Nat) (os : Array Obj), Kd.R Kd.string 9 (grow (putRow encStr (Sort.ahead wr nn) g 0 (ss.mergeSort fun x y => decide (x ≤ y)).toArray) os) w6.heap.size (fun _ => True) (.slice (some ⟨g, 0, none⟩) ss.length cap) ((sortM ms).map Mb.name)) := ⟨fun nn os => by
        have ho := ownsRow_sorted (n := nn) (os := os) (ts := ss.mergeSort leB) (ss := ss) (by rw [(List.mergeSort_perm ss leB).length_eq]) hbase hbk h1 h2 h3
        rw [hT, names_enc, hsl] at ho
        rw [hsl]
        rw [← hT] at ho
        exact Kd.R_of_own ho (fun _ _ => trivial)⟩
      have HB4 : Aside0 (∀ (nn : Nat) (os : Array Obj), RowKit.Below w6.heap.size w6 (grow (putRow encStr (Sort.ahead wr nn) g 0 (ss.mergeSort fun x y => decide (x ≤ y)).toArray) os)) := ⟨fun nn os => pw_below_grown HBE.out _ HBE.out.size (grownBy_sorted _) (fun k e => by injection e with e; omega)⟩
      have HSL := Aside0.mk hsl
      clear hT h3 h4 hbk hperm hc0 hl0 hsl
      go_wp2_with fail
      refine HC.out.mono ?_
      rintro e w4 ⟨rfl, nn, os, hw4⟩
      have HR4 : Aside0 (Kd.R Kd.string 9 w4 w6.heap.size (fun _ => True) (.slice (some ⟨g, 0, none⟩) ss.length cap) ((sortM ms).map Mb.name)) := ⟨by rw [hw4]; exact HR4.out nn os⟩
      have HB4 : Aside0 (RowKit.Below w6.heap.size w6 w4) := ⟨by rw [hw4]; exact HB4.out nn os⟩
      clear hw4 HC
      generalize hnm : (sortM ms).map Mb.name = nms at *
      have HNM := Aside0.mk hnm
      clear hnm
      have hgl : g < w4.heap.size := Kd.R_lt HR4.out g rfl
      have HO4 : Aside0 (Kd.R Kd.string 9 (w4.alloc (.cells #[] 9)) w6.heap.size (fun _ => True) (.slice (some ⟨w4.heap.size, 0, none⟩) 0 0) []) := ⟨Kd.R_of_own (enc := Value.string) (World.ownsRow_lit w4 #[] 0 HB4.out.size (Nat.zero_le _) rfl) (fun _ _ => trivial)⟩
      have HNIL : Aside0 (∀ W : World, Kd.C Kd.string W (some ⟨w6.heap.size, 0, none⟩) 0 []) := ⟨fun W => ⟨rfl, by omega, fun h => absurd h (Nat.lt_irrefl 0)⟩⟩
      have hb41 : w6.heap.size ≤ (w4.alloc (.cells #[] 9)).heap.size := by rw [size_alloc]; have := HB4.out.size; omega
      have hl0 : (([] : List ByteArray).length + 0) * 16 ≤ 140737488355328 := by decide
      have hl1 : (([] : List ByteArray).length + ss.length) * 16 ≤ 140737488355328 := by simp only [List.length_nil]; omega
      go_wp2_with (first
        | (at_builtin; refine Kd.R_append_row Value.string ByteArray.empty (w0 := w6) w6.heap.size rfl (.tmp 65) (.tmp 66) 87 9 (.string ⟨#[]⟩) 16 rfl Tryz.underlying87 info9 rfl (by decide) (.slice (some ⟨w4.heap.size, 0, none⟩) 0 0) [] [] (some ⟨w6.heap.size, 0, none⟩) 0 0 (fun _ => True) rfl rfl (fun _ _ => trivial) HO4.out (HNIL.out _) (below_alloc HB4.out _) hb41 hl0 ?_; intro v5 w5 hR5 hB5 hg5 hat5
           have HR5 : Aside0 (Kd.R Kd.string 9 w5 w6.heap.size (fun _ => True) v5 []) := ⟨hR5⟩
           have HB5 := Aside0.mk hB5
           have HN5 : Aside0 (Kd.C Kd.string w5 (some ⟨g, 0, none⟩) ss.length nms) := ⟨by
             have h1 := HR4.out
             have h2 : Kd.R Kd.string 9 w5 w6.heap.size (fun _ => True) (.slice (some ⟨g, 0, none⟩) ss.length cap) nms := by
               have ho := Kd.own_of_R h1
               exact Kd.R_of_own (own_frame ho (fun k hk => by
                 have e : k = g := by simp [Value.ownBlock] at hk; exact hk.symm
                 subst e
                 exact (hg5.block k (by rw [size_alloc]; omega) (by simp [Value.ownBlock]; omega)).trans ((below_one w4 _).block k hgl))) (fun _ _ => trivial)
             have h3 := (Kd.R_reads' h2)
             rw [h3.1]
             exact h3.2.2⟩
           clear hR5 hB5 hg5 hat5)
        | (at_builtin; refine Kd.R_append_row Value.string ByteArray.empty (w0 := w6) w6.heap.size rfl (.tmp 67) (.tmp 68) 87 9 (.string ⟨#[]⟩) 16 rfl Tryz.underlying87 info9 rfl (by decide) v5 [] nms (some ⟨g, 0, none⟩) ss.length cap (fun _ => True) rfl rfl (fun _ _ => trivial) HR5.out HN5.out HB5.out HB5.out.size hl1 ?_; intro v7 w7 hR7 hB7 hg7 hat7
           have HR7 : Aside0 (Kd.R Kd.string 9 w7 w6.heap.size (fun _ => True) v7 nms) := ⟨hR7⟩
           have HB7 := Aside0.mk hB7
           obtain ⟨A7, c7, rfl, hc7, hC7⟩ := Kd.R_reads hR7
           clear hR7 hB7 hg7 hat7 hC7)
        | fail)
      have hsl2 : (sortM ms).length = ms.length := (sortM_perm ms).length_eq
      have hnl : nms.length = ms.length := by rw [← HNM.out, List.length_map, hsl2]
      have HQ0 : Aside0 (QRel base w (.slice A Ls.length cl) Ls (sortM ms) nms w6.heap.size (.slice A7 nms.length c7) v6 (.int .i64 0) w7) := ⟨⟨0, [], Nat.zero_le _, rfl, rfl, fun j m m' _ h => by simp at h, fun j m m' _ h => by simp at h, by have := HO6.out.later HB7.out; simpa [objL, nodesL] using this, HR7.out⟩⟩
      have HNLs := Aside0.mk hsl2
      have HNL := Aside0.mk hnl
      clear hsl2 hnl
      go_loopw [0, 71] (fun v0 v71 wr => QRel base w (.slice A Ls.length cl) Ls (sortM ms) nms w6.heap.size (.slice A7 nms.length c7) v0 v71 wr) (fun _ v71 _ => ms.length - (intOf v71).toNat)
      case atStart => exact HQ0.out
      case round =>
        obtain ⟨i, ms', hi, rfl, hl', hmm, hcan, hout, hrn⟩ := hrel
        have HMM := Aside0.mk hmm
        have HCA := Aside0.mk hcan
        have HOU := Aside0.mk hout
        have HRN := Aside0.mk hrn
        clear hmm hcan hout hrn
        have hbR : base ≤ wr.heap.size := HOU.out.base_le hb
        by_cases hlt : i < ms.length
        · have hls : i < (sortM ms).length := by rw [HNLs.out]; exact hlt
          have hki : (i : Int) < (nms.length : Int) := by have := HNL.out; omega
          obtain ⟨mb, hmb⟩ : ∃ mb, mb = (sortM ms)[i] := ⟨_, rfl⟩
          have hgi : (sortM ms)[i]? = some mb := by rw [hmb]; exact List.getElem?_eq_getElem hls
          have hmem : mb ∈ ms := (sortM_perm ms).mem_iff.1 (hmb ▸ List.getElem_mem hls)
          have hrm := room hl' hls HCA.out
          rw [← hmb] at hrm
          have HGI := Aside0.mk hgi
          have HME := Aside0.mk hmem
          have hsz := HSZ.out mb hmem
          obtain ⟨-, -, hCn⟩ := Kd.R_reads' HRN.out
          obtain ⟨ad, rfl, hcn⟩ := Kd.at_string hCn (i : Int) (by omega) hki
          have hnmi : rdOf ByteArray.empty nms (i : Int) = mb.name := by
            rw [← HNM.out]
            simp [rdOf, List.getD, hgi]
          rw [hnmi, Int.toNat_natCast] at hcn
          have HX := Aside0.mk (fun (W : World) (l8 : Value) (ho : Out base w (.slice A Ls.length cl) W l8 (objL Ls ms' ++ [(⟨9, 0, mb.name, 0⟩ : V4)])) => HIH.out mb hmem (Vm mb.name) (objL Ls ms' ++ [(⟨9, 0, mb.name, 0⟩ : V4)]) base l8 W ho.row (ho.base_le hb) (ho.free (HK.out mb hmem)) (by rw [List.length_append, objL_len]; simp only [List.length_cons, List.length_nil]; omega))
          have HMW := Aside0.mk (map_frame HOW.out (HOU.out.grw.block b HBF.out.1 HBF.out.2))
          have hkey := keyOf_name mb.name (by unfold maxLen; omega)
          have HAT := Aside0.mk (HD.out.at_ mb hmem)
          have HHA := Aside0.mk ((HD.out.has mb.name).2 (List.mem_map_of_mem hmem))
          have HRT2 := Aside0.mk (Kd.R_typed HOU.out.row)
          obtain ⟨A0, c0, rfl⟩ := Kd.R_slice HOU.out.row
          have hll := objL_len Ls ms'
          obtain ⟨LL, hLL⟩ : ∃ LL, LL = (objL Ls ms').length := ⟨_, rfl⟩
          have hl40 : ((objL Ls ms').length + 1) * 40 ≤ 140737488355328 := by omega
          have hLLs : LL ≤ 1000 := by omega
          have HLL := Aside0.mk hLL
          have HOL : Aside0 (Out base w (.slice A Ls.length cl) wr (.slice A0 LL c0) (objL Ls ms')) := ⟨by rw [hLL]; exact HOU.out⟩
          have hw1 : IntKind.i64.wrap ((i : Int) + 1) = ((i + 1 : Nat) : Int) := by rw [i64_w, w64 (by omega) (by omega)]; omega
          obtain ⟨name, hname⟩ : ∃ name, name = mb.name := ⟨_, rfl⟩
          have HNAME := Aside0.mk hname
          rw [← hname] at hcn hkey HAT HHA HX
          rw [← hLL]
          have HRM := Aside0.mk hrm
          clear hLL hll hgi hmem hmb hCn hnmi hrm hname
          go_wp2_with (first
            | (at_lookup; refine wpList_lookup_there _ rfl _ _ 64 rfl 9 20 law9 Tryz.underlying64 (zero20 _) b N D rfl HMW.out _ (keyL name) rfl hkey (Vm name) HAT.out HHA.out ?_)
            | (at_builtin; refine Kd.R_append k27 (w0 := wr) base rfl (.tmp 85) (.tmp 88) 22 27 (.agg #[.int .i64 0, .float .f64 0, .string ⟨#[]⟩, .int .i64 0]) 40 rfl Tryz.underlying22 info27 rfl (by decide) (by decide) (.slice A0 LL c0) (objL Ls ms') ⟨9, 0, name, 0⟩ (cs4 ⟨9, 0, name, 0⟩) (fun _ => True) (fun _ => False) rfl rfl (k27_mkM _ _ _ _) (fun _ hk => hk.elim) (fun _ _ => trivial) HOL.out.row (Below.refl _ _) hbR hl40 ?_; intro v8 w8 hR8 hB8 hg8 hat8; have HO8 := Aside0.mk (Out.mk hR8 hg8 hat8); clear hR8 hB8 hg8 hat8)
            | fail)
          have HO8w := Aside0.mk (HOL.out.trans HO8.out)
          refine (HX.out w8 v8 HO8w.out).mono ?_
          rintro e w9 ⟨l9, t9, rfl, hc9, ho9⟩
          have HC9 := Aside0.mk hc9
          have HO9 := Aside0.mk ho9
          have hln : (nodes t9).length = (nodes mb.val).length := canon_len hc9
          have HCL := Aside0.mk (closed_any base l9 (objL Ls ms' ++ [(⟨9, 0, name, 0⟩ : V4)] ++ nodes t9) LL ⟨9, 0, name, 0⟩ w9 ho9.row (by rw [HLL.out]; exact mem_head _ _ _) (by have := HRM.out; have := HLL.out; have := objL_len Ls ms'; simp only [List.length_append, List.length_cons, List.length_nil]; omega))
          clear hc9 ho9 hln
          go_wp2_with fail
          refine HCL.out.mono ?_
          rintro e w10 ⟨rfl, ho10⟩
          have HT : Aside0 (Out base wr (.slice A0 LL c0) w10 l9 (objL Ls (ms' ++ [⟨0, name, t9⟩]))) := ⟨by
            have h1 := (HO8.out.trans HO9.out).trans ho10
            rw [HLL.out, obj_more] at h1
            rw [HLL.out]
            exact h1⟩
          have HQ1 : Aside0 (QRel base w (.slice A Ls.length cl) Ls (sortM ms) nms w6.heap.size (.slice (some ad) nms.length c7) l9 (.int .i64 ((i + 1 : Nat) : Int)) w10) := ⟨⟨i + 1, ms' ++ [⟨0, name, t9⟩], by rw [HNLs.out]; exact hlt, rfl, by rw [List.length_append, hl']; rfl, fun j m m' h1 h2 => by
            by_cases hj : j < i
            · rw [List.getElem?_append_left (by omega)] at h2
              exact HMM.out j m m' h1 h2
            · have hj2 : j = i := by
                have := (List.getElem?_eq_some_iff.1 h2).1
                simp at this
                omega
              subst hj2
              rw [List.getElem?_append_right (by omega), hl', Nat.sub_self] at h2
              simp at h2
              subst h2
              rw [HGI.out] at h1
              injection h1 with h1
              subst h1
              exact ⟨rfl, HNAME.out⟩, fun j m m' h1 h2 => by
            by_cases hj : j < i
            · rw [List.getElem?_append_left (by omega)] at h2
              exact HCA.out j m m' h1 h2
            · have hj2 : j = i := by
                have := (List.getElem?_eq_some_iff.1 h2).1
                simp at this
                omega
              subst hj2
              rw [List.getElem?_append_right (by omega), hl', Nat.sub_self] at h2
              simp at h2
              subst h2
              rw [HGI.out] at h1
              injection h1 with h1
              subst h1
              exact HC9.out, HOL.out.trans HT.out, Kd.R_over' HRN.out (v := .slice A0 LL c0) (e' := 27) (fun k hk => HRT2.out k (by rw [HLL.out] at hk; exact hk)) (by simp [Kd.string, Kd.scalar]) HT.out.grw⟩⟩
          clear ho10 HCL
          go_wp2_with fail
          go_roundw
          case rel => exact HQ1.out
          case measure => simp [intOf]; omega
        · obtain rfl : i = ms.length := by rw [HNLs.out] at hi; omega
          have hki : ¬ ((ms.length : Int) < (nms.length : Int)) := by have := HNL.out; omega
          have hrm := room_all (by rw [HNLs.out]; exact hl') HCA.out
          have HCL := Aside0.mk (closed_any base u0 (objL Ls ms') Ls.length ⟨8, 0, ⟨#[]⟩, 0⟩ wr HOU.out.row (obj_head _ _) (by rw [objL_len]; omega))
          have HCN := Aside0.mk (Canon.obj n ms (sortM ms) ms' (sortM_perm ms) (sortM_sorted ms) (by rw [HNLs.out]; exact hl') HMM.out HCA.out)
          clear hrm
          go_wp2_with fail
          refine HCL.out.mono ?_
          rintro e w10 ⟨rfl, ho10⟩
          have HO2 : Aside0 (Out base w (.slice A Ls.length cl) w10 u0 (Ls ++ nodes (.mk 8 0 ⟨#[]⟩ (ms'.map Mb.tree)))) := ⟨by
            have h1 := HOU.out.trans ho10
            rw [obj_close] at h1
            exact h1⟩
          clear ho10 HCL
          go_wp2_with fail
          go_ret
          exact ⟨_, _, rfl, HCN.out, HO2.out⟩
    · intro x c kl yd yp w2 cnt2 hkey hlk hv hat hrg2 hlt hg2 hs2 hen
      obtain ⟨x', ex, rfl, hxl⟩ := Maps.keyOf_str Tryz.underlying9 hkey
      obtain rfl : x = x' := encStr_inj ex
      have HRG2 := Aside0.mk hrg2
      have HG2 := Aside0.mk hg2
      have HAT := Aside0.mk hat
      have HLK := Aside0.mk hlk
      have hrow2 := World.ownsRow.kept HRO.out hg2 (Or.inr (row_ne_iter HRO.out HRG.out).symm)
      have HROW2 := Aside0.mk hrow2
      have HB2 : Aside0 (Below w6.heap.size w6 w2) := ⟨pw_below_grown HBE.out _ HBE.out.size hg2 (fun k e => by injection e with e; have := HR2.out; omega)⟩
      have hl16 : (ss.length + 1) * 16 ≤ 140737488355328 := by have := HCS.out; have := HSD.out; omega
      clear hs2 hkey hlk hv hat hrg2 hg2 ex hrow2
      go_wp2_with fail
      refine wp_loop_rounds 1 ?_
      rw [rounds_succ]
      go_wp2_with (first
        | (at_builtin; refine print_append_cells (w0 := w6) w6.heap.size rfl (.tmp 59) (.tmp 61) 87 9 (.string ⟨#[]⟩) 1 16 rfl Tryz.underlying87 info9 rfl (by decide) (by decide) u11 ss.length (ss.map encStr) [encStr x] rfl rfl rfl (by simp [Value.oneCell', encStr]) HROW2.out HB2.out HB2.out.size hl16 ?_; intro v3 w3 hR3 hB3 hg3 hat3; have HR3 := Aside0.mk hR3; have HB3 := Aside0.mk hB3; have HG3 := Aside0.mk hg3; clear hR3 hB3 hg3 hat3)
        | fail)
      have hrg3 := HRG2.out.kept HG3.out (row_ne_low HROW2.out HBL.out) (row_ne_iter HROW2.out HRG2.out)
      refine ⟨⟨_, cnt2, ss ++ [x], hrg3, by have := HCS.out; rw [List.length_append]; simp only [List.length_cons, List.length_nil]; omega, by rw [List.length_append, List.map_append]; exact HR3.out, fun e => ?_, HCO.out.step HLK.out HAT.out, HB3.out⟩, ?_⟩
      · rcases HR3.out.2 with ⟨-, h0⟩ | ⟨g, cap, cur, e2, -⟩
        · omega
        · rw [e] at e2; cases e2
      · rw [hrg3.left_eq, HRG.out.left_eq]; exact hlt
end Go.Proofs.YtdcfbgpcpjjjaaaGreat.Co
