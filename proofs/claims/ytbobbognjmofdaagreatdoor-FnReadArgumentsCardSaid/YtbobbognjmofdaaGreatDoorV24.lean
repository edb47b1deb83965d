import Derived.Test.YtbobbognjmofdaaGreatDoorV23
import Derived.Test.YtbobbognjmofdaaGreatDoorV22
section
namespace Go.Proofs.YtbobbognjmofdaaGreatDoor.Lex
open Go.RowKit Go.Proofs.YtbobbognjmofdaaGreatDoorW.PrintWords Go.Proofs.YtbobbognjmofdaaGreatDoorW.PrintLast Go.Proofs.YtbobbognjmofdaaGreatDoorW.PrintMore
open Go.Proofs.YtbobbognjmofdaaGreatDoor.Ptext
set_option linter.unusedVariables false
set_option linter.unusedSimpArgs false
theorem own_cell {W:World} {e n:Nat} {v:Value} {inner:List Value} (h:W.ownsRow 0 e 1 v n inner) (i:Nat) (hi:i < n) {u:Value} (hu:inner[i]? = some u):∃ (ad:Addr) (c:Nat),v = .slice (some ad) n c ∧ W.cell? (ad.add i) = some u:=by
 have hl:=h.1
 rcases h.2 with ⟨rfl,hn⟩ | ⟨g,cap,cur,rfl,hg,hh,hnc,hcm,hcs,ht⟩
 ·omega
 refine ⟨⟨g,0,none⟩,cap,rfl,?_⟩
 rw [addr_add0,blk_cell hh i]
 have:(cur.toList.take (n * 1))[i]? = inner[i]?:=by rw [ht]
 rw [List.getElem?_take,if_pos (by omega)] at this
 rw [← Array.getElem?_toList,this,hu]
theorem own_slice {W:World} {e n:Nat} {v:Value} {inner:List Value} (h:W.ownsRow 0 e 1 v n inner):∃ (A:Option Addr) (c:Nat),v = .slice A n c:=by
 rcases h.2 with ⟨rfl,hn⟩ | ⟨g,cap,cur,rfl,hg,hh,hnc,hcm,hcs,ht⟩
 ·exact ⟨none,0,by rw [hn]⟩
 ·exact ⟨_,_,rfl⟩
set_option maxHeartbeats 1000000 in
theorem clos_vals (base g p tb xb:Nat) (k:ByteArray) (l v:Value) (nss:List (List S50)) (inner:List Value) (is:Nat → Nat × Nat) (d:List S50) (W:World) (h1:W.heap[tb]? = some (.cells #[.pointer (some ⟨g,0,none⟩)] 84 (0,0))) (h2:W.heap[xb]? = some (.cells #[.pointer (some ⟨p,0,none⟩)] 156 (0,0))) (h3:W.heap[p]? = some (.cells #[.string k,l,v] 159 (0,0)))
  (ho:∀ W',KeepX W W' → W'.ownsRow 0 95 1 v nss.length inner) (hi:∀ i,i < nss.length → inner[i]? = some (.iface (is i).1 (ptr (is i).2))) (hT:Tk W base g d) (hb:base ≤ W.heap.size) (hl:nss.length ≤ 100000)
  (HC:∀ (i:Nat) (hlt:i < nss.length) (W':World),Tk W' base g (d ++ (nss.take i).flatten) → KeepX W W' → base ≤ W'.heap.size → Calls Tryz.prog 48 #[.pointer (some ⟨g,0,none⟩),.iface (is i).1 (ptr (is i).2)] W' (Takes base g (d ++ (nss.take i).flatten) nss[i] W')) :
  Calls Tryz.prog 85 #[ptr xb,ptr tb] W (Takes base g d nss.flatten W):=by
 have HCC:=Aside0.mk HC
 have HT:=Aside0.mk hT
 have HO:=Aside0.mk ho
 have HI:=Aside0.mk hi
 have c2:=(blk_cell h2 0).trans rfl
 have c3:=(blk_cell h3 2).trans rfl
 have H1:=Aside0.mk h1
 have hvs:=own_slice (ho W (KeepX.refl W))
 obtain ⟨A,cp,rfl⟩:=hvs
 clear h1 h2 h3 hT HC ho hi
 go_enter Tryz.func85,Tryz.ntmps85
 go_wp2_with fail
 go_loopw [9] (fun v9 wr=>∃ i:Nat,i ≤ nss.length ∧ v9 = .int .i64 i ∧ Aside0 (Tk wr base g (d ++ (nss.take i).flatten) ∧ Below base W wr ∧ KeepX W wr)) (fun v9 _=>nss.length - (intOf v9).toNat)
 case atStart=>exact ⟨0,Nat.zero_le _,rfl,⟨by simpa using HT.out,Below.refl _ _,KeepX.refl _⟩⟩
 case round=>
  obtain ⟨i,hile,rfl,HA⟩:=hrel
  by_cases hlt:i < nss.length
  ·have hin:(i:Int) < (nss.length:Int):=by omega
   obtain ⟨ad,c,he,hcell⟩:=own_cell (HO.out wr HA.out.2.2) i hlt (HI.out i hlt)
   obtain rfl:A = some ad:=by injection he
   have hbr:base ≤ wr.heap.size:=by have:=HA.out.2.1.size;omega
   have t1:=(blk_cell (HA.out.2.2 _ _ _ H1.out (by decide) (by decide) (by decide)) 0).trans rfl
   have HX:=Aside0.mk (HCC.out i hlt wr HA.out.1 HA.out.2.2 hbr)
   have HFL:Aside0 ((nss.take (i + 1)).flatten = (nss.take i).flatten ++ nss[i]):=⟨flat_take nss i hlt⟩
   obtain ⟨x,hx⟩:∃ x,x = is i:=⟨_,rfl⟩
   rw [← hx] at hcell HX
   obtain ⟨I,q⟩:=x
   dsimp only at hcell HX
   clear hx he
   go_wp2_with fail
   refine HX.out.mono ?_
   rintro e w3 ⟨rfl,hT3,hB3,hK3⟩
   have HN:Aside0 (Tk w3 base g (d ++ (nss.take (i + 1)).flatten) ∧ Below base W w3 ∧ KeepX W w3):=⟨⟨by rw [HFL.out,← List.append_assoc];exact hT3,HA.out.2.1.trans hB3,HA.out.2.2.trans hK3⟩⟩
   clear hT3 hB3 hK3
   go_wp2_with fail
   go_roundw
   case rel=>exact ⟨i + 1,hlt,by go_num,HN⟩
   case measure=>simp [intOf];omega
  ·obtain rfl:i = nss.length:=by omega
   have hin:¬ ((nss.length:Int) < (nss.length:Int)):=by omega
   have HA2:Aside0 (Tk wr base g (d ++ nss.flatten) ∧ Below base W wr ∧ KeepX W wr):=⟨by have:=HA.out;rw [List.take_length] at this;exact this⟩
   go_wp2_with fail
   go_end0
   exact ⟨rfl,HA2.out.1,HA2.out.2.1,HA2.out.2.2⟩
abbrev n17:S50:=⟨17,⟨#[]⟩,⟨#[]⟩,⟨#[]⟩,0,0⟩
abbrev n18:S50:=⟨18,⟨#[]⟩,⟨#[]⟩,⟨#[]⟩,0,0⟩
abbrev n19 (n:ByteArray):S50:=⟨19,n,⟨#[]⟩,⟨#[]⟩,0,0⟩
theorem own_keepX {W W1:World} {e n:Nat} {v:Value} {inner:List Value} (h:W.ownsRow 0 e 1 v n inner) (hk:KeepX W W1) (h1:e ≠ 87) (h2:e ≠ 50) (h3:e ≠ 208):W1.ownsRow 0 e 1 v n inner:=by
 refine own_move h (fun b hb=>?_)
 obtain ⟨cs,hc⟩:=own_typed h b hb
 exact (hk b _ _ hc h1 h2 h3).trans hc.symm
theorem flat_take_le (nss:List (List S50)) (i:Nat) (h:i < nss.length):(nss.take i).flatten.length + nss[i].length ≤ nss.flatten.length:=flat_take_len nss i h
set_option maxRecDepth 8000 in
set_option maxHeartbeats 1200000 in
theorem take_list (base g p q:Nat) (k:ByteArray) (v:Value) (nss:List (List S50)) (inner:List Value) (is:Nat → Nat × Nat) (d:List S50) (w:World) (h:Tk w base g d) (hb:base ≤ w.heap.size) (hp:w.heap[p]? = some (.cells #[.string k,ptr q,v] 159 (0,0))) (hq:LocAt w q) (ho:w.ownsRow 0 95 1 v nss.length inner) (hi:∀ i,i < nss.length → inner[i]? = some (.iface (is i).1 (ptr (is i).2))) (hlen:d.length + 1 + nss.flatten.length ≤ 100000) (hnl:nss.length ≤ 100000)
  (IH:∀ (i:Nat) (hlt:i < nss.length) (d':List S50) (W':World),KeepX w W' → Tk W' base g d' → base ≤ W'.heap.size → d'.length + nss[i].length ≤ 100000 → Calls Tryz.prog 48 #[.pointer (some ⟨g,0,none⟩),.iface (is i).1 (ptr (is i).2)] W' (Takes base g d' nss[i] W')) :
  Calls Tryz.prog 48 #[.pointer (some ⟨g,0,none⟩),.iface 156 (ptr p)] w (Takes base g d (made (nd 17 ⟨#[]⟩) nss) w):=by
 have HP:=Aside0.mk hp
 have HPU:=Aside0.mk (fun W (hw:Below w.heap.size w W) (h1:W.heap[w.heap.size]? = some (.cells #[.pointer (some ⟨g,0,none⟩)] 84 (0,0))) (h2:W.heap[w.heap.size + 1]? = some (.cells #[.pointer (some ⟨p,0,none⟩)] 156 (0,0)))=>
  put_any base g q n17 d nss.flatten (.func (.func 85) #[] #[.pointer (some ⟨w.heap.size + 1,0,none⟩),.pointer (some ⟨w.heap.size,0,none⟩)]) W (h.below hw) (Nat.le_trans hb hw.size) (hq.below hw) hlen
   (.inr ⟨85,_,rfl,by decide,fun W' hT' hK' hB'=>show Calls Tryz.prog 85 #[ptr (w.heap.size + 1),ptr w.heap.size] W' (Takes base g (d ++ [n17]) nss.flatten W') from clos_vals base g p w.heap.size (w.heap.size + 1) k (ptr q) v nss inner is (d ++ [n17]) W' (hK' _ _ _ h1 (by decide) (by decide) (by decide)) (hK' _ _ _ h2 (by decide) (by decide) (by decide)) (hK' _ _ _ (blk_below hp hw) (by decide) (by decide) (by decide))
    (fun W'' hK''=>own_keepX ho (((KeepX.of_below hw).trans hK').trans hK'') (by decide) (by decide) (by decide)) hi hT' (Nat.le_trans (Nat.le_trans hb hw.size) hB'.size) hnl
    (fun i hlt W'' hT'' hK'' hb''=>IH i hlt _ W'' (((KeepX.of_below hw).trans hK').trans hK'') hT'' hb'' (by have:=flat_take_le nss i hlt;simp only [List.length_append,List.length_cons,List.length_nil];omega))⟩))
 have c1:=(blk_cell hp 1).trans rfl
 have hpl:=blk_lt hp
 clear h hp hq IH ho hi
 have t141:=run_assert_not Tryz.underlying141 (show 156 ≠ 141 by decide) zero141 (.pointer (some ⟨p,0,none⟩))
 have t144:=run_assert_not Tryz.underlying144 (show 156 ≠ 144 by decide) zero144 (.pointer (some ⟨p,0,none⟩))
 have t147:=run_assert_not Tryz.underlying147 (show 156 ≠ 147 by decide) zero147 (.pointer (some ⟨p,0,none⟩))
 have t149:=run_assert_not Tryz.underlying149 (show 156 ≠ 149 by decide) zero149 (.pointer (some ⟨p,0,none⟩))
 have t151:=run_assert_not Tryz.underlying151 (show 156 ≠ 151 by decide) zero151 (.pointer (some ⟨p,0,none⟩))
 have t154:=run_assert_not Tryz.underlying154 (show 156 ≠ 154 by decide) zero154 (.pointer (some ⟨p,0,none⟩))
 have t156:=run_assert_is Tryz.underlying156 (.pointer (some ⟨p,0,none⟩))
 go_enter Tryz.func48,Tryz.ntmps48
 go_wp2_with fail
 go_region_with (go_at_call 75;refine (HPU.out _ ?_ ?_ ?_).mono ?_;exact below_drew (below_alloc (below_alloc (Below.refl _ _) _) _);exact blk_alloc (blk_new w _) _;exact blk_new2 w _ _;rintro e w3 ⟨rfl,hT3,hB3,hK3⟩;have HT3:=Aside0.mk hT3;have HB3:=Aside0.mk hB3;have HK3:=Aside0.mk hK3;clear hT3 hB3 hK3)
 all_goals
  go_wp2_with fail
  go_end0
  have hb1:Below w.heap.size w ((w.alloc (.cells #[.pointer (some ⟨g,0,none⟩)] 84)).alloc (.cells #[.pointer (some ⟨p,0,none⟩)] 156)).drew:=below_drew (below_alloc (below_alloc (Below.refl _ _) _) _)
  exact ⟨rfl,HT3.out,(hb1.mono hb).trans HB3.out,(KeepX.of_below hb1).trans HK3.out⟩
set_option maxHeartbeats 1000000 in
theorem clos_field (base g pf tb fb x q:Nat) (k:ByteArray) (v:Nat × Nat) (d ns:List S50) (W:World) (h1:W.heap[tb]? = some (.cells #[.pointer (some ⟨g,0,none⟩)] 84 (0,0))) (h2:W.heap[fb]? = some (.cells #[.pointer (some ⟨pf,0,none⟩)] 164 (0,0))) (h3:W.heap[pf]? = some (.cells #[.string k,ptr x,ptr q,.iface v.1 (ptr v.2)] 166 (0,0))) (hT:Tk W base g d) (hb:base ≤ W.heap.size)
  (HC:∀ W',Tk W' base g d → KeepX W W' → base ≤ W'.heap.size → Calls Tryz.prog 48 #[.pointer (some ⟨g,0,none⟩),.iface v.1 (ptr v.2)] W' (Takes base g d ns W')) :
  Calls Tryz.prog 87 #[ptr tb,ptr fb] W (Takes base g d ns W):=by
 have HCC:=Aside0.mk HC
 have HT:=Aside0.mk hT
 have c1:=(blk_cell h1 0).trans rfl
 have c2:=(blk_cell h2 0).trans rfl
 have c3:=(blk_cell h3 3).trans rfl
 clear h1 h2 h3 hT HC
 obtain ⟨I,p⟩:=v
 dsimp only at c3 HCC
 go_enter Tryz.func87,Tryz.ntmps87
 go_wp2_with fail
 go_region_with (go_at_call 48;refine (HCC.out _ ?_ ?_ ?_).mono ?_;exact HT.out.below (below_drew (Below.refl _ _));exact KeepX.of_below (below_drew (Below.refl _ _));exact hb;rintro e w3 ⟨rfl,hT3,hB3,hK3⟩;have HT3:=Aside0.mk hT3;have HB3:=Aside0.mk hB3;have HK3:=Aside0.mk hK3;clear hT3 hB3 hK3)
 all_goals
  go_wp2_with fail
  go_end0
  exact ⟨rfl,HT3.out,(below_drew (Below.refl base W)).trans HB3.out,(KeepX.of_below (below_drew (Below.refl _ _))).trans HK3.out⟩
theorem FieldAt.keepX {W W1:World} {ok:Nat → Prop} {p:Nat} {n:ByteArray} {v:Nat × Nat} (h:FieldAt W ok p n v) (hk:KeepX W W1):FieldAt W1 ok p n v:=(Mv.of_keepX hk).field h
theorem fnodes_take (fs:List (ByteArray × List S50)) (i:Nat) (h:i < fs.length):((fnodes 19 fs).take (i + 1)).flatten = ((fnodes 19 fs).take i).flatten ++ made (nd 19 fs[i].1) [fs[i].2]:=by
 have hl:i < (fnodes 19 fs).length:=by unfold fnodes;rw [List.length_map];exact h
 rw [flat_take _ i hl]
 congr 1
 simp [fnodes]
set_option maxRecDepth 8000 in
set_option maxHeartbeats 1200000 in
theorem clos_fields (base g p tb xb:Nat) (k:ByteArray) (l v:Value) (fs:List (ByteArray × List S50)) (inner:List Value) (ps:Nat → Nat) (is:Nat → Nat × Nat) (d:List S50) (W:World) (h1:W.heap[tb]? = some (.cells #[.pointer (some ⟨g,0,none⟩)] 84 (0,0))) (h2:W.heap[xb]? = some (.cells #[.pointer (some ⟨p,0,none⟩)] 160 (0,0))) (h3:W.heap[p]? = some (.cells #[.string k,l,v] 163 (0,0)))
  (ho:∀ W',KeepX W W' → W'.ownsRow 0 164 1 v fs.length inner) (hi:∀ i,i < fs.length → inner[i]? = some (ptr (ps i))) (hf:∀ (i:Nat) (hlt:i < fs.length),FieldAt W (fun _=>True) (ps i) fs[i].1 (is i)) (hT:Tk W base g d) (hb:base ≤ W.heap.size) (hl:fs.length ≤ 100000) (hlen:d.length + (fnodes 19 fs).flatten.length ≤ 100000)
  (HC:∀ (i:Nat) (hlt:i < fs.length) (d':List S50) (W':World),Tk W' base g d' → KeepX W W' → base ≤ W'.heap.size → d'.length + fs[i].2.length ≤ 100000 → Calls Tryz.prog 48 #[.pointer (some ⟨g,0,none⟩),.iface (is i).1 (ptr (is i).2)] W' (Takes base g d' fs[i].2 W')) :
  Calls Tryz.prog 86 #[ptr xb,ptr tb] W (Takes base g d (fnodes 19 fs).flatten W):=by
 have HCC:=Aside0.mk HC
 have HT:=Aside0.mk hT
 have HO:=Aside0.mk ho
 have HI:=Aside0.mk hi
 have HF:=Aside0.mk hf
 have c2:=(blk_cell h2 0).trans rfl
 have c3:=(blk_cell h3 2).trans rfl
 have H1:=Aside0.mk h1
 obtain ⟨A,cp,rfl⟩:=own_slice (ho W (KeepX.refl W))
 clear h1 h2 h3 hT HC ho hi hf
 go_enter Tryz.func86,Tryz.ntmps86
 go_wp2_with fail
 go_loopw [9] (fun v9 wr=>∃ i:Nat,i ≤ fs.length ∧ v9 = .int .i64 i ∧ Aside0 (Tk wr base g (d ++ ((fnodes 19 fs).take i).flatten) ∧ Below base W wr ∧ KeepX W wr)) (fun v9 _=>fs.length - (intOf v9).toNat)
 case atStart=>exact ⟨0,Nat.zero_le _,rfl,⟨by simpa using HT.out,Below.refl _ _,KeepX.refl _⟩⟩
 case round=>
  obtain ⟨i,hile,rfl,HA⟩:=hrel
  by_cases hlt:i < fs.length
  ·have hin:(i:Int) < (fs.length:Int):=by omega
   obtain ⟨ad,c,he,hcell⟩:=own_cell (HO.out wr HA.out.2.2) i hlt (HI.out i hlt)
   obtain rfl:A = some ad:=by injection he
   have hbr:base ≤ wr.heap.size:=by have:=HA.out.2.1.size;omega
   have hfi:=(HF.out i hlt).keepX HA.out.2.2
   have hfl:=fnodes_take fs i hlt
   have hll:((fnodes 19 fs).take i).flatten.length + (fs[i].2.length + 1) ≤ (fnodes 19 fs).flatten.length:=by
    have hl2:i < (fnodes 19 fs).length:=by unfold fnodes;rw [List.length_map];exact hlt
    have:=flat_take_le (fnodes 19 fs) i hl2
    have e:(fnodes 19 fs)[i] = made (nd 19 fs[i].1) [fs[i].2]:=by simp [fnodes]
    rw [e,made_len] at this
    simpa using this
   have HX:=Aside0.mk (HCC.out i hlt)
   obtain ⟨x,hx⟩:∃ x,x = is i:=⟨_,rfl⟩
   obtain ⟨pf,hpf⟩:∃ pf,pf = ps i:=⟨_,rfl⟩
   obtain ⟨f,hfx⟩:∃ f,f = fs[i]:=⟨_,rfl⟩
   rw [← hx] at HX hfi
   rw [← hpf] at hfi hcell
   rw [← hfx] at HX hfi hfl hll
   obtain ⟨n,ns⟩:=f
   dsimp only at HX hfi hfl hll
   obtain ⟨-,kf,xf,qf,hf0,⟨-,hnm⟩,-,hloc⟩:=hfi
   have t1:=(blk_cell (HA.out.2.2 _ _ _ H1.out (by decide) (by decide) (by decide)) 0).trans rfl
   have f1:=(blk_cell hf0 1).trans rfl
   have f2:=(blk_cell hf0 2).trans rfl
   have hpfl:=blk_lt hf0
   have htbl:=blk_lt (HA.out.2.2 _ _ _ H1.out (by decide) (by decide) (by decide))
   have HON:=Aside0.mk (fun W' (hw:Below wr.heap.size wr W')=>ntext_any xf n W' (hnm.below hw))
   have HPU:=Aside0.mk (fun W' (hw:Below wr.heap.size wr W') (h2:W'.heap[wr.heap.size]? = some (.cells #[.pointer (some ⟨pf,0,none⟩)] 164 (0,0)))=>
    put_any base g qf (n19 n) (d ++ ((fnodes 19 fs).take i).flatten) ns (.func (.func 87) #[] #[.pointer (some ⟨tb,0,none⟩),.pointer (some ⟨wr.heap.size,0,none⟩)]) W' (HA.out.1.below hw) (Nat.le_trans hbr hw.size) (hloc.below hw) (by simp only [List.length_append];omega)
     (.inr ⟨87,_,rfl,by decide,fun W'' hT'' hK'' hB''=>show Calls Tryz.prog 87 #[ptr tb,ptr wr.heap.size] W'' (Takes base g (d ++ ((fnodes 19 fs).take i).flatten ++ [n19 n]) ns W'') from clos_field base g pf tb wr.heap.size xf qf kf x (d ++ ((fnodes 19 fs).take i).flatten ++ [n19 n]) ns W'' (((HA.out.2.2.trans (KeepX.of_below hw)).trans hK'') _ _ _ H1.out (by decide) (by decide) (by decide)) (hK'' _ _ _ h2 (by decide) (by decide) (by decide)) (((KeepX.of_below hw).trans hK'') _ _ _ hf0 (by decide) (by decide) (by decide)) hT'' (Nat.le_trans (Nat.le_trans hbr hw.size) hB''.size)
      (fun W3 hT3 hK3 hb3=>HX.out _ W3 hT3 (((HA.out.2.2.trans (KeepX.of_below hw)).trans hK'').trans hK3) hb3 (by simp only [List.length_append,List.length_cons,List.length_nil];omega))⟩))
   have HFL:Aside0 (d ++ ((fnodes 19 fs).take (i + 1)).flatten = d ++ ((fnodes 19 fs).take i).flatten ++ ({ n19 n with f5:=1 + ns.length } :: ns)):=⟨by rw [hfl,← List.append_assoc];congr 1;show made _ _ = _;unfold made;simp [nd]⟩
   have HF0:=Aside0.mk hf0
   clear hx hpf hfx he hf0 hnm hloc hfl hll
   go_wp2_with fail
   obtain ⟨Wb,hWb⟩:∃ Wb,Wb = wr.alloc (.cells #[.pointer (some ⟨pf,0,none⟩)] 164):=⟨_,rfl⟩
   have hEb:Wb.heap[wr.heap.size]? = some (.cells #[.pointer (some ⟨pf,0,none⟩)] 164 (0,0)):=by rw [hWb];exact blk_new _ _
   have hBb:Below wr.heap.size wr Wb:=by rw [hWb];exact below_alloc (Below.refl _ _) _
   have b0:=(blk_cell hEb 0).trans rfl
   have b1:=(blk_cell (blk_below HF0.out hBb) 1).trans rfl
   have b2:=(blk_cell (blk_below HF0.out hBb) 2).trans rfl
   have bt:=(blk_cell (blk_below (HA.out.2.2 _ _ _ H1.out (by decide) (by decide) (by decide)) hBb) 0).trans rfl
   have hpfb:=blk_lt (blk_below HF0.out hBb)
   have hbb:=blk_lt hEb
   have htbb:=blk_lt (blk_below (HA.out.2.2 _ _ _ H1.out (by decide) (by decide) (by decide)) hBb)
   rw [← hWb]
   have hBd:Below wr.heap.size wr Wb.drew:=below_drew hBb
   have HBD:=Aside0.mk hBd
   have HED:Aside0 (Wb.drew.heap[wr.heap.size]? = some (.cells #[.pointer (some ⟨pf,0,none⟩)] 164 (0,0))):=⟨hEb⟩
   clear hWb hEb hBb hBd t1 f1 f2 hpfl htbl hcell
   refine wp_region_still_tail 12 (by kernel_rfl) (by kernel_rfl) ?_
   simp only [List.take_succ_cons,List.take_zero,List.drop_succ_cons,List.drop_zero]
   repeat still_step
   still_call ((HON.out _ HBD.out).mono (fun _ _ h=>⟨h.1,h.2.symm⟩))
   repeat still_step
   try refine wpStill_nil ?_
   change wpList _ _ _ _ _ Wb.drew
   obtain ⟨Wd,hWd⟩:∃ Wd,Wd = Wb.drew:=⟨_,rfl⟩
   rw [← hWd] at HBD HED ⊢
   clear b0 b1 b2 bt hpfb hbb htbb hWd
   go_wp2_with fail
   refine (HPU.out Wd HBD.out HED.out).mono ?_
   rintro e w3 ⟨rfl,hT3,hB3,hK3⟩
   have HN:Aside0 (Tk w3 base g (d ++ ((fnodes 19 fs).take (i + 1)).flatten) ∧ Below base W w3 ∧ KeepX W w3):=⟨⟨by rw [HFL.out];exact hT3,HA.out.2.1.trans ((HBD.out.mono hbr).trans hB3),HA.out.2.2.trans ((KeepX.of_below HBD.out).trans hK3)⟩⟩
   clear hT3 hB3 hK3
   go_wp2_with fail
   go_roundw
   case rel=>exact ⟨i + 1,hlt,by go_num,HN⟩
   case measure=>simp [intOf];omega
  ·obtain rfl:i = fs.length:=by omega
   have hin:¬ ((fs.length:Int) < (fs.length:Int)):=by omega
   have HA2:Aside0 (Tk wr base g (d ++ (fnodes 19 fs).flatten) ∧ Below base W wr ∧ KeepX W wr):=⟨by
    have:=HA.out
    rw [show fs.length = (fnodes 19 fs).length by unfold fnodes;rw [List.length_map],List.take_length] at this
    exact this⟩
   go_wp2_with fail
   go_end0
   exact ⟨rfl,HA2.out.1,HA2.out.2.1,HA2.out.2.2⟩
set_option maxRecDepth 8000 in
set_option maxHeartbeats 1200000 in
theorem take_obj (base g p q:Nat) (k:ByteArray) (v:Value) (fs:List (ByteArray × List S50)) (inner:List Value) (ps:Nat → Nat) (is:Nat → Nat × Nat) (d:List S50) (w:World) (h:Tk w base g d) (hb:base ≤ w.heap.size) (hp:w.heap[p]? = some (.cells #[.string k,ptr q,v] 163 (0,0))) (hq:LocAt w q) (ho:w.ownsRow 0 164 1 v fs.length inner) (hi:∀ i,i < fs.length → inner[i]? = some (ptr (ps i))) (hf:∀ (i:Nat) (hlt:i < fs.length),FieldAt w (fun _=>True) (ps i) fs[i].1 (is i)) (hlen:d.length + 1 + (fnodes 19 fs).flatten.length ≤ 100000) (hnl:fs.length ≤ 100000)
  (IH:∀ (i:Nat) (hlt:i < fs.length) (d':List S50) (W':World),KeepX w W' → Tk W' base g d' → base ≤ W'.heap.size → d'.length + fs[i].2.length ≤ 100000 → Calls Tryz.prog 48 #[.pointer (some ⟨g,0,none⟩),.iface (is i).1 (ptr (is i).2)] W' (Takes base g d' fs[i].2 W')) :
  Calls Tryz.prog 48 #[.pointer (some ⟨g,0,none⟩),.iface 160 (ptr p)] w (Takes base g d (made (nd 18 ⟨#[]⟩) (fnodes 19 fs)) w):=by
 have HP:=Aside0.mk hp
 have HPU:=Aside0.mk (fun W (hw:Below w.heap.size w W) (h1:W.heap[w.heap.size]? = some (.cells #[.pointer (some ⟨g,0,none⟩)] 84 (0,0))) (h2:W.heap[w.heap.size + 1]? = some (.cells #[.pointer (some ⟨p,0,none⟩)] 160 (0,0)))=>
  put_any base g q n18 d (fnodes 19 fs).flatten (.func (.func 86) #[] #[.pointer (some ⟨w.heap.size + 1,0,none⟩),.pointer (some ⟨w.heap.size,0,none⟩)]) W (h.below hw) (Nat.le_trans hb hw.size) (hq.below hw) hlen
   (.inr ⟨86,_,rfl,by decide,fun W' hT' hK' hB'=>show Calls Tryz.prog 86 #[ptr (w.heap.size + 1),ptr w.heap.size] W' (Takes base g (d ++ [n18]) (fnodes 19 fs).flatten W') from clos_fields base g p w.heap.size (w.heap.size + 1) k (ptr q) v fs inner ps is (d ++ [n18]) W' (hK' _ _ _ h1 (by decide) (by decide) (by decide)) (hK' _ _ _ h2 (by decide) (by decide) (by decide)) (hK' _ _ _ (blk_below hp hw) (by decide) (by decide) (by decide))
    (fun W'' hK''=>own_keepX ho (((KeepX.of_below hw).trans hK').trans hK'') (by decide) (by decide) (by decide)) hi (fun i hlt=>(hf i hlt).keepX ((KeepX.of_below hw).trans hK')) hT' (Nat.le_trans (Nat.le_trans hb hw.size) hB'.size) hnl (by simp only [List.length_append,List.length_cons,List.length_nil];omega)
    (fun i hlt d' W'' hT'' hK'' hb'' hl''=>IH i hlt d' W'' (((KeepX.of_below hw).trans hK').trans hK'') hT'' hb'' hl'')⟩))
 have c1:=(blk_cell hp 1).trans rfl
 have hpl:=blk_lt hp
 clear h hp hq IH ho hi hf
 have t141:=run_assert_not Tryz.underlying141 (show 160 ≠ 141 by decide) zero141 (.pointer (some ⟨p,0,none⟩))
 have t144:=run_assert_not Tryz.underlying144 (show 160 ≠ 144 by decide) zero144 (.pointer (some ⟨p,0,none⟩))
 have t147:=run_assert_not Tryz.underlying147 (show 160 ≠ 147 by decide) zero147 (.pointer (some ⟨p,0,none⟩))
 have t149:=run_assert_not Tryz.underlying149 (show 160 ≠ 149 by decide) zero149 (.pointer (some ⟨p,0,none⟩))
 have t151:=run_assert_not Tryz.underlying151 (show 160 ≠ 151 by decide) zero151 (.pointer (some ⟨p,0,none⟩))
 have t154:=run_assert_not Tryz.underlying154 (show 160 ≠ 154 by decide) zero154 (.pointer (some ⟨p,0,none⟩))
 have t156:=run_assert_not Tryz.underlying156 (show 160 ≠ 156 by decide) zero156 (.pointer (some ⟨p,0,none⟩))
 have t160:=run_assert_is Tryz.underlying160 (.pointer (some ⟨p,0,none⟩))
 go_enter Tryz.func48,Tryz.ntmps48
 go_wp2_with fail
 go_region_with (go_at_call 75;refine (HPU.out _ ?_ ?_ ?_).mono ?_;exact below_drew (below_alloc (below_alloc (Below.refl _ _) _) _);exact blk_alloc (blk_new w _) _;exact blk_new2 w _ _;rintro e w3 ⟨rfl,hT3,hB3,hK3⟩;have HT3:=Aside0.mk hT3;have HB3:=Aside0.mk hB3;have HK3:=Aside0.mk hK3;clear hT3 hB3 hK3)
 all_goals
  go_wp2_with fail
  go_end0
  have hb1:Below w.heap.size w ((w.alloc (.cells #[.pointer (some ⟨g,0,none⟩)] 84)).alloc (.cells #[.pointer (some ⟨p,0,none⟩)] 160)).drew:=below_drew (below_alloc (below_alloc (Below.refl _ _) _) _)
  exact ⟨rfl,HT3.out,(hb1.mono hb).trans HB3.out,(KeepX.of_below hb1).trans HK3.out⟩
theorem made_ne (n:S50) (xss:List (List S50)):1 ≤ (made n xss).length:=by rw [made_len];omega
theorem RepV.pos {W:World} {ok:Nat → Prop} {ns:List S50} {I p:Nat} (h:RepV W ok ns I p):1 ≤ ns.length:=by cases h <;> exact made_ne _ _
theorem len_flatten {nss:List (List S50)} (h:∀ (i:Nat) (hlt:i < nss.length),1 ≤ nss[i].length):nss.length ≤ nss.flatten.length:=by
 induction nss with
 | nil=>simp
 | cons x xs ih=>
  have h0:=h 0 (by simp)
  have h1:=ih (fun i hlt=>by have:=h (i + 1) (by simp;omega);simpa using this)
  simp only [List.length_cons,List.flatten_cons,List.length_append]
  simp at h0
  omega
theorem take_any (base g:Nat) {W0:World} {ok:Nat → Prop} {ns:List S50} {I p:Nat} (h:RepV W0 ok ns I p):∀ (d:List S50) (w:World),KeepX W0 w → Tk w base g d → base ≤ w.heap.size → d.length + ns.length ≤ 100000 →
  Calls Tryz.prog 48 #[.pointer (some ⟨g,0,none⟩),.iface I (ptr p)] w (Takes base g d ns w):=by
 induction h with
 | leaf hl hp h hq hL=>
  intro d w hk hT hb hlen
  have hL2:=((Mv.of_keepX (ok:=fun _=>True) hk).loc trivial hL).2
  rw [made_len] at hlen
  have hlen:d.length + 1 ≤ 100000:=by simpa using hlen
  cases hl with
  | int s=>exact take_int base g _ _ _ s d w hT hb (hk _ _ _ h (by decide) (by decide) (by decide)) hL2 hlen
  | float s=>exact take_float base g _ _ _ s d w hT hb (hk _ _ _ h (by decide) (by decide) (by decide)) hL2 hlen
  | text s=>exact take_text base g _ _ _ s d w hT hb (hk _ _ _ h (by decide) (by decide) (by decide)) hL2 hlen
  | yes=>exact take_yes base g _ _ _ d w hT hb (hk _ _ _ h (by decide) (by decide) (by decide)) hL2 hlen
  | no=>exact take_no base g _ _ _ d w hT hb (hk _ _ _ h (by decide) (by decide) (by decide)) hL2 hlen
  | enum s=>exact take_enum base g _ _ _ s d w hT hb (hk _ _ _ h (by decide) (by decide) (by decide)) hL2 hlen
 | var hp h hq hL hx hN=>
  intro d w hk hT hb hlen
  rw [made_len] at hlen
  exact take_var base g _ _ _ _ _ d w hT hb (hk _ _ _ h (by decide) (by decide) (by decide)) ((Mv.of_keepX (ok:=fun _=>True) hk).loc trivial hL).2 ((Mv.of_keepX (ok:=fun _=>True) hk).name trivial hN).2 (by simpa using hlen)
 | list hp h hq hL hv ho hi hkk ih=>
  intro d w hk hT hb hlen
  rw [made_len] at hlen
  have hfl:=len_flatten (fun i hlt=>(hkk i hlt).pos)
  exact take_list base g _ _ _ _ _ _ _ d w hT hb (hk _ _ _ h (by decide) (by decide) (by decide)) ((Mv.of_keepX (ok:=fun _=>True) hk).loc trivial hL).2 (own_keepX ho hk (by decide) (by decide) (by decide)) hi (by omega) (by omega)
   (fun i hlt d' W' hk' hT' hb' hl'=>ih i hlt d' W' (hk.trans hk') hT' hb' hl')
 | obj hp h hq hL hv ho hi hf hkk ih=>
  rename_i fs _ _ _ _ _ _ _
  intro d w hk hT hb hlen
  rw [made_len] at hlen
  have hfl:fs.length ≤ (fnodes 19 fs).flatten.length:=by
   have:=len_flatten (nss:=fnodes 19 fs) (fun i hlt=>by simp only [fnodes,List.getElem_map];exact made_ne _ _)
   unfold fnodes at this ⊢
   rw [List.length_map] at this
   exact this
  have hlen:d.length + ((fnodes 19 fs).flatten.length + 1) ≤ 100000:=hlen
  exact take_obj base g _ _ _ _ fs _ _ _ d w hT hb (hk _ _ _ h (by decide) (by decide) (by decide)) ((Mv.of_keepX (ok:=fun _=>True) hk).loc trivial hL).2 (own_keepX ho hk (by decide) (by decide) (by decide)) hi (fun i hlt=>((Mv.mono (fun _ _=>trivial)).field (hf i hlt)).keepX hk) (by omega) (by omega)
   (fun i hlt d' W' hk' hT' hb' hl'=>ih i hlt d' W' (hk.trans hk') hT' hb' hl')
end Go.Proofs.YtbobbognjmofdaaGreatDoor.Lex
end
