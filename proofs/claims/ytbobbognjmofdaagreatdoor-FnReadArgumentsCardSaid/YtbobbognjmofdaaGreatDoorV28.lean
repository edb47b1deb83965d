import Derived.Test.YtbobbognjmofdaaGreatDoorV27
import Derived.Test.YtbobbognjmofdaaGreatDoorV25
import Derived.Test.YtbobbognjmofdaaGreatDoorV18
section
namespace Go.Proofs.YtbobbognjmofdaaGreatDoor.Lex
open Go.RowKit Go.Proofs.YtbobbognjmofdaaGreatDoorW.PrintWords Go.Proofs.YtbobbognjmofdaaGreatDoorW.PrintLast Go.Proofs.YtbobbognjmofdaaGreatDoorW.PrintMore
open Go.Proofs.YtbobbognjmofdaaGreatDoor.Ptext
set_option linter.unusedVariables false
set_option linter.unusedSimpArgs false
set_option maxHeartbeats 1000000 in
theorem clos_arg (base g pf tb fb x q:Nat) (k:ByteArray) (v:Nat × Nat) (d ns:List S50) (W:World) (h1:W.heap[tb]? = some (.cells #[.pointer (some ⟨g,0,none⟩)] 84 (0,0))) (h2:W.heap[fb]? = some (.cells #[.pointer (some ⟨pf,0,none⟩)] 169 (0,0))) (h3:W.heap[pf]? = some (.cells #[.string k,ptr q,ptr x,.iface v.1 (ptr v.2)] 171 (0,0))) (hT:Tk W base g d) (hb:base ≤ W.heap.size)
  (HC:∀ W',Tk W' base g d → KeepX W W' → base ≤ W'.heap.size → Calls Tryz.prog 48 #[.pointer (some ⟨g,0,none⟩),.iface v.1 (ptr v.2)] W' (Takes base g d ns W')) :
  Calls Tryz.prog 89 #[ptr tb,ptr fb] W (Takes base g d ns W):=by
 have HCC:=Aside0.mk HC
 have HT:=Aside0.mk hT
 have c1:=(blk_cell h1 0).trans rfl
 have c2:=(blk_cell h2 0).trans rfl
 have c3:=(blk_cell h3 3).trans rfl
 clear h1 h2 h3 hT HC
 obtain ⟨I,p⟩:=v
 dsimp only at c3 HCC
 go_enter Tryz.func89,Tryz.ntmps89
 go_wp2_with fail
 go_region_with (go_at_call 48;refine (HCC.out _ ?_ ?_ ?_).mono ?_;exact HT.out.below (below_drew (Below.refl _ _));exact KeepX.of_below (below_drew (Below.refl _ _));exact hb;rintro e w3 ⟨rfl,hT3,hB3,hK3⟩;have HT3:=Aside0.mk hT3;have HB3:=Aside0.mk hB3;have HK3:=Aside0.mk hK3;clear hT3 hB3 hK3)
 all_goals
  go_wp2_with fail
  go_end0
  exact ⟨rfl,HT3.out,(below_drew (Below.refl base W)).trans HB3.out,(KeepX.of_below (below_drew (Below.refl _ _))).trans HK3.out⟩
theorem R_keepX {α:Type} {d:Kd α} {e base:Nat} {ok:Nat → Prop} {W W1:World} {v:Value} {xs:List α} (h:d.R e W base ok v xs) (hk:KeepX W W1) (hE:∀ q,q ∈ e :: d.E → q ≠ 87 ∧ q ≠ 50 ∧ q ≠ 208):d.R e W1 base ok v xs:=by
 refine Kd.R_mono (Kd.R_move (Kd.R_bound h) (fun k hk2=>?_)) (fun k hk2=>hk2.1)
 obtain ⟨-,-,-,q,hq,cells,hc⟩:=hk2
 obtain ⟨h1,h2,h3⟩:=hE q hq
 exact (hk k _ _ hc h1 h2 h3).trans hc.symm
theorem kAP_X:∀ q,q ∈ 169 :: kAP.E → q ≠ 87 ∧ q ≠ 50 ∧ q ≠ 208:=by
 have:∀ q,q ∈ 169 :: TS → q ≠ 87 ∧ q ≠ 50 ∧ q ≠ 208:=by decide
 exact this
abbrev n9 (n:ByteArray):S50:=⟨9,n,⟨#[]⟩,⟨#[]⟩,0,0⟩
theorem meas_lt (n i:Nat) (h:i < n):n - ((i:Int) + 1).toNat < n - ((i:Int)).toNat:=by omega
theorem len_flat:∀ (nss:List (List S50)),(∀ i (h:i < nss.length),1 ≤ nss[i].length) → nss.length ≤ nss.flatten.length
 | [],_=>Nat.le_refl _
 | x :: xs,h=>by
  have h0:=h 0 (Nat.zero_lt_succ _)
  have ih:=len_flat xs (fun i hi=>h (i + 1) (Nat.succ_lt_succ hi))
  simp only [List.getElem_cons_zero] at h0
  simp only [List.length_cons,List.flatten_cons,List.length_append]
  omega
set_option maxRecDepth 8000 in
set_option maxHeartbeats 1200000 in
theorem takeArgs_any (base lo g:Nat) (v:Value) (nss:List (List S50)) (d:List S50) (w:World) (h:Tk w base g d) (hb:base ≤ w.heap.size) (hR:kAP.R 169 w lo (fun _=>True) v nss) (hlen:d.length + nss.flatten.length ≤ 100000) :
  Calls Tryz.prog 50 #[.pointer (some ⟨g,0,none⟩),v] w (Takes base g d nss.flatten w):=by
 have HT:=Aside0.mk h
 have HR:=Aside0.mk hR
 have hln:nss.length ≤ nss.flatten.length:=len_flat nss (fun i hi=>by
  obtain ⟨ad,c,u,-,-,hM⟩:=R_get hR rfl i hi
  obtain ⟨pf,n,x,ns,-,hmd,-⟩:=hM
  rw [hmd,made_len];omega)
 obtain ⟨A,cp,hv,-,-⟩:=Kd.R_reads hR
 subst hv
 clear h hR
 go_enter Tryz.func50,Tryz.ntmps50
 go_wp2_with fail
 obtain ⟨Wt,hWt⟩:∃ Wt,Wt = w.alloc (.cells #[.pointer (some ⟨g,0,none⟩)] 84):=⟨_,rfl⟩
 have hEt:Wt.heap[w.heap.size]? = some (.cells #[.pointer (some ⟨g,0,none⟩)] 84 (0,0)):=by rw [hWt];exact blk_new _ _
 have hBt:Below w.heap.size w Wt:=by rw [hWt];exact below_alloc (Below.refl _ _) _
 rw [← hWt]
 clear hWt
 have H1:=Aside0.mk hEt
 have HBt:=Aside0.mk hBt
 have HK0:=Aside0.mk (KeepX.of_below hBt)
 have HT0:=Aside0.mk (HT.out.below hBt)
 clear hEt hBt
 obtain ⟨tb,htb⟩:∃ tb,tb = w.heap.size:=⟨_,rfl⟩
 have HTB:=Aside0.mk htb
 have hbt:base ≤ Wt.heap.size:=Nat.le_trans hb HBt.out.size
 have H1':Aside0 (Wt.heap[tb]? = some (.cells #[.pointer (some ⟨g,0,none⟩)] 84 (0,0))):=⟨by rw [htb];exact H1.out⟩
 rw [← htb]
 clear htb
 go_loopw [8] (fun v8 wr=>∃ i:Nat,i ≤ nss.length ∧ v8 = .int .i64 i ∧ Aside0 (Tk wr base g (d ++ (nss.take i).flatten) ∧ Below base Wt wr ∧ KeepX Wt wr)) (fun v8 _=>nss.length - (intOf v8).toNat)
 case atStart=>exact ⟨0,Nat.zero_le _,rfl,⟨by simpa using HT0.out,Below.refl _ _,KeepX.refl _⟩⟩
 case round=>
  obtain ⟨i,hile,rfl,HA⟩:=hrel
  by_cases hlt:i < nss.length
  ·have hin:(i:Int) < (nss.length:Int):=by omega
   have hbr:base ≤ wr.heap.size:=by have:=HA.out.2.1.size;omega
   obtain ⟨ad,c,u,he,hcell,hM⟩:=R_get (R_keepX HR.out (HK0.out.trans HA.out.2.2) kAP_X) rfl i hlt
   obtain ⟨pf,n,x,ns,hu,hmd,harg,hrep⟩:=hM
   obtain rfl:u = ptr pf:=by injection hu
   obtain rfl:A = some ad:=by injection he
   have hfl:=flat_take nss i hlt
   have hll:=flat_take_le nss i hlt
   rw [hmd] at hfl hll
   have hll:((nss.take i).flatten).length + (ns.length + 1) ≤ nss.flatten.length:=by rw [made_len] at hll;simpa using hll
   obtain ⟨-,kf,xf,qf,hf0,⟨-,hnm⟩,-,hloc⟩:=harg
   have HREP:=Aside0.mk hrep
   have HON:=Aside0.mk (fun W' (hw:Below wr.heap.size wr W')=>ntext_any xf n W' (hnm.below hw))
   have HPU:=Aside0.mk (fun W' (hw:Below wr.heap.size wr W') (h2:W'.heap[wr.heap.size]? = some (.cells #[.pointer (some ⟨pf,0,none⟩)] 169 (0,0)))=>
    put_any base g qf (n9 n) (d ++ ((nss.take i)).flatten) ns (.func (.func 89) #[] #[.pointer (some ⟨tb,0,none⟩),.pointer (some ⟨wr.heap.size,0,none⟩)]) W' (HA.out.1.below hw) (Nat.le_trans hbr hw.size) (hloc.below hw) (by simp only [List.length_append];omega)
     (.inr ⟨89,_,rfl,by decide,fun W'' hT'' hK'' hB''=>show Calls Tryz.prog 89 #[ptr tb,ptr wr.heap.size] W'' (Takes base g (d ++ ((nss.take i)).flatten ++ [n9 n]) ns W'') from clos_arg base g pf tb wr.heap.size xf qf kf x (d ++ ((nss.take i)).flatten ++ [n9 n]) ns W'' (((HA.out.2.2.trans (KeepX.of_below hw)).trans hK'') _ _ _ H1'.out (by decide) (by decide) (by decide)) (hK'' _ _ _ h2 (by decide) (by decide) (by decide)) (((KeepX.of_below hw).trans hK'') _ _ _ hf0 (by decide) (by decide) (by decide)) hT'' (Nat.le_trans (Nat.le_trans hbr hw.size) hB''.size)
      (fun W3 hT3 hK3 hb3=>take_any base g HREP.out _ W3 (((KeepX.of_below hw).trans hK'').trans hK3) hT3 hb3 (by simp only [List.length_append,List.length_cons,List.length_nil];omega))⟩))
   have HFL:Aside0 (d ++ (nss.take (i + 1)).flatten = d ++ (nss.take i).flatten ++ ({ n9 n with f5:=1 + ns.length } :: ns)):=⟨by rw [hfl,← List.append_assoc];congr 1;unfold made;simp [nd]⟩
   have HF0:=Aside0.mk hf0
   clear he hf0 hnm hloc hfl hll hu hmd hrep
   go_wp2_with fail
   obtain ⟨Wb,hWb⟩:∃ Wb,Wb = wr.alloc (.cells #[.pointer (some ⟨pf,0,none⟩)] 169):=⟨_,rfl⟩
   have hEb:Wb.heap[wr.heap.size]? = some (.cells #[.pointer (some ⟨pf,0,none⟩)] 169 (0,0)):=by rw [hWb];exact blk_new _ _
   have hBb:Below wr.heap.size wr Wb:=by rw [hWb];exact below_alloc (Below.refl _ _) _
   have b0:=(blk_cell hEb 0).trans rfl
   have b1:=(blk_cell (blk_below HF0.out hBb) 1).trans rfl
   have b2:=(blk_cell (blk_below HF0.out hBb) 2).trans rfl
   have bt:=(blk_cell (blk_below (HA.out.2.2 _ _ _ H1'.out (by decide) (by decide) (by decide)) hBb) 0).trans rfl
   have hpfb:=blk_lt (blk_below HF0.out hBb)
   have hbb:=blk_lt hEb
   have htbb:=blk_lt (blk_below (HA.out.2.2 _ _ _ H1'.out (by decide) (by decide) (by decide)) hBb)
   rw [← hWb]
   have hBd:Below wr.heap.size wr Wb.drew:=below_drew hBb
   have HBD:=Aside0.mk hBd
   have HED:Aside0 (Wb.drew.heap[wr.heap.size]? = some (.cells #[.pointer (some ⟨pf,0,none⟩)] 169 (0,0))):=⟨hEb⟩
   clear hWb hEb hBb hBd hcell
   refine wp_region_still_tail 12 (by kernel_rfl) (by kernel_rfl) ?_
   simp only [List.take_succ_cons,List.take_zero,List.drop_succ_cons,List.drop_zero]
   repeat still_step
   still_call ((HON.out _ HBD.out).mono (fun _ _ h=>⟨h.1,h.2.symm⟩))
   repeat still_step
   try refine wpStill_nil ?_
   change wpList _ _ _ _ _ Wb.drew
   obtain ⟨Wd,hWd⟩:∃ Wd,Wd = Wb.drew:=⟨_,rfl⟩
   rw [← hWd] at HBD HED ⊢
   clear b0 b1 b2 bt hpfb hbb htbb hWd
   go_wp2_with fail
   refine (HPU.out Wd HBD.out HED.out).mono ?_
   rintro e w3 ⟨rfl,hT3,hB3,hK3⟩
   have HN:Aside0 (Tk w3 base g (d ++ (nss.take (i + 1)).flatten) ∧ Below base Wt w3 ∧ KeepX Wt w3):=⟨⟨by rw [HFL.out];exact hT3,HA.out.2.1.trans ((HBD.out.mono hbr).trans hB3),HA.out.2.2.trans ((KeepX.of_below HBD.out).trans hK3)⟩⟩
   clear hT3 hB3 hK3
   go_wp2_with fail
   have hw1:wrap64 ((i:Int) + 1) = (i:Int) + 1:=by unfold wrap64;omega
   go_roundw
   case rel=>exact ⟨i + 1,hlt,by go_num,HN⟩
   case measure=>
    simp only [intOf,hw1]
    exact meas_lt _ _ hlt
  ·obtain rfl:i = nss.length:=by omega
   have hin:¬ ((nss.length:Int) < (nss.length:Int)):=by omega
   have HA2:Aside0 (Tk wr base g (d ++ nss.flatten) ∧ Below base Wt wr ∧ KeepX Wt wr):=⟨by have:=HA.out;rw [List.take_length] at this;exact this⟩
   go_wp2_with fail
   go_end0
   exact ⟨rfl,HA2.out.1,(HBt.out.mono hb).trans HA2.out.2.1,HK0.out.trans HA2.out.2.2⟩
def DoorA (s:ByteArray) (l:List S24) (bad:Bool) (lo:Nat) (o:Option (List (List S50) × Nat)) (e:Ending) (w':World):Prop:=
 match o with
 | none=>∃ v a q,e = .returned (.tuple #[v,.int .i64 a,.iface 182 (ptr q)])
 | some r=>∃ v t',e = .returned (.tuple #[v,.int .i64 t'.f2,.nilIface]) ∧ kAP.R 169 w' lo (fun _=>True) v r.1 ∧ At s l bad r.2 t'
set_option maxRecDepth 8000 in
set_option maxHeartbeats 1000000 in
theorem doorReadArguments_any (s:ByteArray) (l:List S24) (bad:Bool) (w:World) (hT:Lib.Utf8Tabs 1 2 w) (hs:s.size ≤ 2000) (hR:lexR s = (l,bad,false)) :
  Calls Tryz.prog 49 #[.string s] w fun e w'=>DoorA s l bad w.heap.size (if l = [] ∧ bad = true then none else pargs l bad (l.length + 1) 0) e w' ∧ Below w.heap.size w w':=by
 obtain ⟨N,hN,hh⟩:=at_first (fun p h1 h2=>(pt_tells s (by omega) p h1 h2).2) hR
 cases N with
 | none=>
  have hlb:l = [] ∧ bad = true:=by
   rcases hh with ⟨-,h2,h3⟩ | ⟨t,h,-⟩
   ·exact ⟨List.eq_nil_of_length_eq_zero h3,h2⟩
   ·cases h
  rw [if_pos hlb]
  have HBG:=Aside0.mk (begin_no s (s.size + 1) w hT hs (by omega) hN)
  clear hT hN hh hR hlb
  go_enter Tryz.func49,Tryz.ntmps49
  go_wp2_with fail
  refine HBG.out.mono ?_
  rintro e w1 ⟨⟨P,q,rfl⟩,hb⟩
  have HB:=Aside0.mk hb
  clear hb
  go_wp2_with fail
  go_ret3
  exact ⟨⟨_,_,q,rfl⟩,HB.out⟩
 | some t=>
  have hat:At s l bad 0 t:=by
   rcases hh with ⟨h,-,-⟩ | ⟨t',h,h2⟩
   ·cases h
   ·injection h with h;rw [h];exact h2
  have hlb:¬ (l = [] ∧ bad = true):=by
   rintro ⟨h1,h2⟩
   rcases hat with ⟨h,-⟩ | ⟨-,h,-⟩
   ·rw [h1] at h;cases h
   ·rw [h2] at h;cases h
  rw [if_neg hlb]
  have HBG:=Aside0.mk (begin_any s (s.size + 1) t w hT hs (by omega) hN)
  have HAT:=Aside0.mk hat
  obtain ⟨o,ho⟩:∃ o,o = pargs l bad (l.length + 1) 0:=⟨_,rfl⟩
  rw [← ho]
  have HO:=Aside0.mk ho
  have HRR:=Aside0.mk hR
  clear hT hN hh hR hlb hat ho
  go_enter Tryz.func49,Tryz.ntmps49
  go_wp2_with fail
  refine HBG.out.mono ?_
  rintro e w1 ⟨E,W1,hEs,rfl,hp,hb,hw⟩
  subst hEs
  have HP:=Aside0.mk hp
  have HB:=Aside0.mk hb
  clear hp hb
  have hC:Ctx E l bad:=Ctx.of hs HRR.out
  have hPA:=parseArgs_at hC W1 w1 0 (l.length + 1) (by omega) HP.out HAT.out
  rw [← HO.out] at hPA
  have HPA:=Aside0.mk hPA
  have c6:=(blk_cell HP.out.parser 6).trans rfl
  have HC6:=Aside0.mk c6
  clear hPA c6 hC
  go_wp2_with fail
  refine HPA.out.mono ?_
  rintro e w2 ⟨h2,ad⟩
  obtain ⟨st,hst⟩:=ad.start _ HC6.out
  have HB2:Aside0 (Below w.heap.size w w2):=⟨HB.out.trans (ad.below HB.out.size (Nat.le_trans hw HP.out.bP) (Nat.le_trans hw HP.out.bpb))⟩
  clear ad
  cases o with
  | none=>
   obtain ⟨v,q,rfl⟩:=h2
   go_wp2_with fail
   go_region
   all_goals
    go_wp2_with fail
    go_ret3
    exact ⟨⟨_,_,q,rfl⟩,pw_below_drewN HB2.out 1⟩
  | some r=>
   obtain ⟨v,t',pe',rfl,hr,hat',hp'⟩:=h2
   have HF:=Aside0.mk (And.intro hr hat')
   have c6':=(blk_cell hp'.parser 6).trans rfl
   clear hr hat' hp' hst
   go_wp2_with fail
   go_region
   all_goals
    go_wp2_with fail
    go_ret3
    exact ⟨⟨v,t',rfl,Kd.R_lower (Kd.R_below HF.out.1 (pw_below_drewN (Below.refl _ _) 1)) HB.out.size,HF.out.2⟩,pw_below_drewN HB2.out 1⟩
def ImplA (s:ByteArray) (l:List S24) (bad:Bool) (o:Option (List (List S50) × Nat)) (base:Nat) (e:Ending) (w':World):Prop:=
 match o with
 | none=>e = .returned (.tuple #[.slice none 0 0,.int .i64 0,.bool false])
 | some r=>∃ v t',e = .returned (.tuple #[v,.int .i64 t'.f2,.bool true]) ∧ k50.R 50 w' base (fun _=>True) v r.1.flatten ∧ At s l bad r.2 t'
set_option maxRecDepth 8000 in
set_option maxHeartbeats 2000000 in
theorem implReadArguments_any (s:ByteArray) (l:List S24) (bad:Bool) (w:World) (hT:Lib.Utf8Tabs 1 2 w) (hs:s.size ≤ 2000) (hR:lexR s = (l,bad,false)) (o:Option (List (List S50) × Nat)) (ho:o = (if l = [] ∧ bad = true then none else pargs l bad (l.length + 1) 0)) (hnd:∀ r,o = some r → r.1.flatten.length ≤ 2000) :
  Calls Tryz.prog 26 #[.string s] w fun e w'=>ImplA s l bad o w.heap.size e w' ∧ Below w.heap.size w w':=by
 have hD:=doorReadArguments_any s l bad w hT hs hR
 rw [← ho] at hD
 have HD:=Aside0.mk hD
 have HND:=Aside0.mk hnd
 clear hT hR ho hnd hD
 go_enter Tryz.func26,Tryz.ntmps26
 go_wp2_with fail
 refine HD.out.mono ?_
 rintro e w1 ⟨h1,hb1⟩
 have HB1:=Aside0.mk hb1
 clear hb1
 cases o with
 | none=>
  obtain ⟨v,a,q,rfl⟩:=h1
  go_wp2_with fail
  go_ret3
  exact ⟨rfl,HB1.out⟩
 | some r=>
  obtain ⟨v,t',rfl,hr,ha⟩:=h1
  have HRR:=Aside0.mk hr
  have HAT:=Aside0.mk ha
  have HNN:=Aside0.mk (HND.out r rfl)
  obtain ⟨A,c,hv,-,-⟩:=Kd.R_reads hr
  clear hr ha
  have HTY:Aside0 (∀ W,Below w1.heap.size w1 W → W.heap[w1.heap.size]? = some (.cells #[.slice none 0 0,.slice none 0 0,.bool false] 87 (0,0)) → Calls Tryz.prog 50 #[.pointer (some ⟨w1.heap.size,0,none⟩),v] W (Takes w.heap.size w1.heap.size [] r.1.flatten W)):=
   ⟨fun W hW hE=>takeArgs_any w.heap.size w.heap.size w1.heap.size v r.1 [] W ⟨_,_,[],hE,HB1.out.size,Kd.R_nil _ _ _ _ _,Kd.R_nil _ _ _ _ _,rfl⟩ (Nat.le_trans HB1.out.size hW.size) (Kd.R_below HRR.out hW) (by have:=HNN.out;simp only [List.length_nil];omega)⟩
  subst hv
  go_wp2_with fail
  go_at_call 50
  refine (HTY.out _ (below_alloc (Below.refl _ _) _) (blk_new _ _)).mono ?_
  rintro e w2 ⟨rfl,hT2,hb2,hk2⟩
  obtain ⟨v1,v2,sp,hE,hg,r1,-,-⟩:=hT2
  have c0:=(blk_cell hE 0).trans rfl
  have c2:=(blk_cell hE 2).trans rfl
  have HR1:Aside0 (k50.R 50 w2 w.heap.size (fun _=>True) v1 r.1.flatten):=⟨r1⟩
  have HB2:=Aside0.mk ((below_then HB1.out HB1.out.size (below_alloc (Below.refl _ _) _)).trans hb2)
  have hgl:=blk_lt hE
  clear hE hg r1 hb2 hk2
  go_wp2_with fail
  go_region
  all_goals
   go_wp2_with fail
   go_ret3
   exact ⟨⟨v1,t',rfl,Kd.R_below HR1.out (pw_below_drewN (Below.refl _ _) 1),HAT.out⟩,pw_below_drewN HB2.out 1⟩
theorem argsd_ok (l:List S24) (n:Nat) (x:PS) (h:x.ok l):(argsd (vald n l) l x).2.ok l:=by
 unfold argsd
 split
 ·rename_i ht
  split
  ·exact h.failed
  ·have h1:=h.next (PS.takes_lt ht (by decide))
   exact (loopd_keeps (c:=5) (by decide) (argd_keeps (vald_keeps l n)) 3001 x.next [] h1 (by have:=h.a0;have:=h.ll;show (l.length:Int) < x.at_ + 1 + (3001:Nat);omega)).ok
 ·exact h
set_option maxRecDepth 8000 in
set_option maxHeartbeats 8000000 in
theorem specRead4_any (s:ByteArray) (w:World) (hs:s.size ≤ 2000) (l:List S24) (b u:Bool) (hR:lexR s = (l,b,u)) :
  Calls Tryz.prog 42 #[.string s,.int .i64 4] w fun e w'=>SpecR l b (argsd (vald 62 l) l ⟨0,0,0,false,false⟩) (!u && !(argsd (vald 62 l) l ⟨0,0,0,false,false⟩).2.unsure) w.heap.size e w' ∧ Below w.heap.size w w':=by
 have hL:=specLexed_any s w hs
 rw [hR] at hL
 have HL:=Aside0.mk hL
 have hll:=lexR_length hs hR
 have hok:PS.ok l ⟨0,0,0,false,false⟩:=⟨Int.le_refl _,by show (0:Int) ≤ _;omega,by omega⟩
 obtain ⟨R,hRR⟩:∃ R,R = argsd (vald 62 l) l ⟨0,0,0,false,false⟩:=⟨_,rfl⟩
 have k1:=argsd_ok l 62 _ hok
 rw [← hRR] at k1 ⊢
 have HRR:=Aside0.mk hRR
 have HOK:=Aside0.mk hok
 clear hL hR hRR hok
 go_enter Tryz.func42,Tryz.ntmps42
 go_wp2_with fail
 refine HL.out.mono ?_
 rintro e w1 ⟨⟨v,rfl,hr⟩,hb⟩
 have hr:k24.R 24 w1 w.heap.size (fun _=>True) v l:=hr
 obtain ⟨A,c,rfl,hc,-⟩:=Kd.R_reads hr
 have HR1:=Aside0.mk hr
 have HB1:=Aside0.mk hb
 clear hr hb hc
 go_wp2_with fail
 obtain ⟨W2,hW2⟩:∃ W2,W2 = w1.alloc (.cells #[.slice A l.length c,.int .i64 0,.int .i64 0,.int .i64 0,.bool false,.bool false] 91):=⟨_,rfl⟩
 have hB2:Below w1.heap.size w1 W2:=by rw [hW2];exact below_alloc (Below.refl _ _) _
 have hE2:W2.heap[w1.heap.size]? = some (.cells #[.slice A l.length c,.int .i64 0,.int .i64 0,.int .i64 0,.bool false,.bool false] 91 (0,0)):=by rw [hW2];exact blk_new _ _
 rw [← hW2]
 clear hW2
 have HB2:=Aside0.mk (HB1.out.trans (hB2.mono HB1.out.size))
 have HR2:=Aside0.mk (Kd.R_below HR1.out hB2)
 have HE2:=Aside0.mk hE2
 have hPx:Px W2 w.heap.size w1.heap.size l ⟨0,0,0,false,false⟩:=⟨_,hE2,HB1.out.size,HR2.out⟩
 have hty:=args_any w.heap.size w1.heap.size l 62 ⟨0,0,0,false,false⟩ W2 hPx HOK.out (by decide) (by decide) (by decide) HB2.out.size (by decide)
 rw [← HRR.out] at hty
 have HTY:=Aside0.mk hty
 clear hB2 hE2 hPx hty
 refine HTY.out.mono ?_
 rintro e w3 ⟨⟨vd,rfl,hd⟩,hX3,hG3⟩
 obtain ⟨A2,cc2,hcc2,hCC2,c0,c1,c2,c3,c4,c5,fz⟩:=hX3.cells
 have HD:=Aside0.mk hd
 have HB3:Aside0 (Below w.heap.size w w3):=⟨HB2.out.trans (grw_base hG3 HB1.out.size HB2.out.size)⟩
 have hr3:=R_grw HR2.out HE2.out k24_E91 hG3
 obtain ⟨A3,c3',he3,-,hC3⟩:=Kd.R_reads hr3
 obtain ⟨rfl,rfl⟩:A = A3 ∧ c = c3':=by injection he3 with h1 h2 h3;exact ⟨h1,h3⟩
 have HC3:=Aside0.mk hC3
 obtain ⟨o,ra,rd,rw,rb,ru⟩:=R
 have ka0:0 ≤ ra:=k1.a0
 have ka1:ra ≤ l.length:=k1.a1
 dsimp only at c0 c1 c2 c3 c4 c5
 clear hX3 hG3 hd hr3 he3 hC3 hCC2 hcc2 c0 c2 c3 k1
 cases rb with
 | true=>
  cases u <;> cases ru <;>
   (
    go_wp2_with fail
    exact bodyPost_ret (v:=.tuple #[.slice none 0 0,.int .i64 0,.bool false,.bool _]) (by simp [results,Tryz.results42,go_sem]) rfl ⟨.inl ⟨.inl rfl,rfl⟩,HB3.out⟩)
 | false=>
  by_cases hat:ra < (l.length:Int)
  ·have hatb:decide (ra ≥ (l.length:Int)) = false:=decide_eq_false (by omega)
   obtain ⟨ad,rfl,p0,p1,p2,p3⟩:=at_T24 HC3.out ra ka0 hat
   obtain ⟨t,ht⟩:∃ t,t = rd_T24 l ra:=⟨_,rfl⟩
   rw [← ht] at p0 p1 p2 p3
   have HTT:=Aside0.mk ht
   have hin:ra.toNat < l.length:=by omega
   clear ht p0 p1 p3
   cases u with
   | false=>
    cases ru with
    | false=>
     go_wp2_with fail
     go_region
     go_wp2_with fail
     exact bodyPost_ret (v:=.tuple #[vd,.int .i64 t.f2,.bool true,.bool true]) (by simp [results,Tryz.results42,go_sem]) rfl ⟨.inr (.inr ⟨rfl,hat,vd,by rw [← HTT.out],Kd.R_below HD.out (pw_below_drewN (Below.refl _ _) 1)⟩),pw_below_drewN HB3.out 1⟩
    | true=>
     go_wp2_with fail
     go_region
     go_wp2_with fail
     exact bodyPost_ret (v:=.tuple #[vd,.int .i64 t.f2,.bool true,.bool false]) (by simp [results,Tryz.results42,go_sem]) rfl ⟨.inr (.inr ⟨rfl,hat,vd,by rw [← HTT.out],Kd.R_below HD.out (pw_below_drewN (Below.refl _ _) 1)⟩),pw_below_drewN HB3.out 1⟩
   | true=>
    cases ru with
    | false=>
     go_wp2_with fail
     go_region
     go_wp2_with fail
     exact bodyPost_ret (v:=.tuple #[vd,.int .i64 t.f2,.bool true,.bool false]) (by simp [results,Tryz.results42,go_sem]) rfl ⟨.inr (.inr ⟨rfl,hat,vd,by rw [← HTT.out],Kd.R_below HD.out (pw_below_drewN (Below.refl _ _) 1)⟩),pw_below_drewN HB3.out 1⟩
    | true=>
     go_wp2_with fail
     go_region
     go_wp2_with fail
     exact bodyPost_ret (v:=.tuple #[vd,.int .i64 t.f2,.bool true,.bool false]) (by simp [results,Tryz.results42,go_sem]) rfl ⟨.inr (.inr ⟨rfl,hat,vd,by rw [← HTT.out],Kd.R_below HD.out (pw_below_drewN (Below.refl _ _) 1)⟩),pw_below_drewN HB3.out 1⟩
  ·have hatb:decide (ra ≥ (l.length:Int)) = true:=decide_eq_true (by omega)
   have hae:ra = l.length:=by omega
   have HAE:=Aside0.mk hae
   clear hae
   cases b with
   | true=>
    cases u <;> cases ru <;>
     (
      go_wp2_with fail
      exact bodyPost_ret (v:=.tuple #[.slice none 0 0,.int .i64 0,.bool false,.bool _]) (by simp [results,Tryz.results42,go_sem]) rfl ⟨.inl ⟨.inr ⟨rfl,HAE.out⟩,rfl⟩,HB3.out⟩)
   | false=>
    cases u <;> cases ru <;>
     (
      go_wp2_with fail
      exact bodyPost_ret (v:=.tuple #[vd,.int .i64 (-1),.bool true,.bool _]) (by simp [results,Tryz.results42,go_sem]) rfl ⟨.inr (.inl ⟨rfl,HAE.out,rfl,vd,rfl,HD.out⟩),HB3.out⟩)
theorem both_say4 {s:ByteArray} {l:List S24} {b sure:Bool} {R:List S50 × PS} {o:Option (List (List S50) × Nat)} {B1 B2:Nat} {e1 e2:Ending} {w1 w2:World} (hA:AgreeA l b R o) (h1:SpecR l b R sure B1 e1 w1) (h2:ImplA s l b o B2 e2 w2) :
  (e1 = .returned (.tuple #[.slice none 0 0,.int .i64 0,.bool false,.bool sure]) ∧ e2 = .returned (.tuple #[.slice none 0 0,.int .i64 0,.bool false])) ∨
  (∃ (v1 v2:Value) (n m:Int) (r:List (List S50) × Nat),o = some r ∧ e1 = .returned (.tuple #[v1,.int .i64 n,.bool true,.bool sure]) ∧ e2 = .returned (.tuple #[v2,.int .i64 m,.bool true]) ∧ (n < 0 ∨ m = n) ∧ R.1.map S50.flat = r.1.flatten.map S50.flat ∧ k50.R 50 w1 B1 (fun _=>True) v1 R.1 ∧ k50.R 50 w2 B2 (fun _=>True) v2 r.1.flatten):=by
 cases o with
 | none=>
  have h2:e2 = .returned (.tuple #[.slice none 0 0,.int .i64 0,.bool false]):=h2
  have hA:Refd l b R.2:=hA
  rcases h1 with ⟨-,rfl⟩ | ⟨hb,ha,hbad,-⟩ | ⟨hb,ha,-⟩
  ·exact .inl ⟨rfl,h2⟩
  ·exfalso
   rcases hA with hr | ⟨hr,-⟩
   ·rw [hb] at hr;cases hr
   ·rw [hbad] at hr;cases hr
  ·exfalso
   rcases hA with hr | ⟨-,hr⟩
   ·rw [hb] at hr;cases hr
   ·omega
 | some r=>
  obtain ⟨v2,t',rfl,r2,hat⟩:=h2
  obtain ⟨a1,a2,a3⟩:=hA
  rcases h1 with ⟨hr,rfl⟩ | ⟨hb,ha,hbad,v,rfl,hv⟩ | ⟨hb,ha,v,rfl,hv⟩
  ·exfalso
   rcases hr with hr | ⟨hr,hl⟩
   ·rw [a1] at hr;cases hr
   ·rcases hat with ⟨h,-⟩ | ⟨-,h,-⟩
    ·have:=(List.getElem?_eq_some_iff.1 h).1;omega
    ·rw [hr] at h;cases h
  ·exact .inr ⟨v,v2,-1,t'.f2,r,rfl,rfl,rfl,.inl (by decide),a2,hv,r2⟩
  ·refine .inr ⟨v,v2,_,t'.f2,r,rfl,rfl,rfl,.inr ?_,a2,hv,r2⟩
   rw [a3,hat.rd (by omega)]
theorem sure_or4 {l:List S24} {b sure:Bool} {R:List S50 × PS} {B1:Nat} {e1:Ending} {w1:World} (h1:SpecR l b R sure B1 e1 w1):∃ (v1:Value) (n:Int) (ok:Bool),e1 = .returned (.tuple #[v1,.int .i64 n,.bool ok,.bool sure]):=by
 rcases h1 with ⟨hr,rfl⟩ | ⟨hb,ha,hbad,v,rfl,hv⟩ | ⟨hb,ha,v,rfl,hv⟩
 ·exact ⟨_,_,_,rfl⟩
 ·exact ⟨_,_,_,rfl⟩
 ·exact ⟨_,_,_,rfl⟩
theorem pargs_nodes {l:List S24} {bad:Bool} {n:Nat} {r:List (List S50) × Nat} (h:pargs l bad n 0 = some r):r.1.flatten.length ≤ l.length:=by
 unfold pargs at h
 split at h
 ·cases hp:pnext l bad 0 with
  | none=>rw [hp] at h;cases h
  | some j=>
   rw [hp] at h
   dsimp only at h
   cases hq:plist 5 (pfield 9 (pval l bad n) l bad) l bad (l.length + 1) j [] with
   | none=>rw [hq] at h;cases h
   | some q=>
    rw [hq] at h
    dsimp only at h
    obtain ⟨h1,h2⟩:=plist_nodes (show (5:Int) ≠ 1 by decide) (pfield_nodes (pval_nodes l bad n)) _ _ _ q hq
    split at h
    ·cases h
    ·injection h with h
     rw [← h]
     simp only [List.flatten_nil,List.length_nil] at h1
     omega
 ·injection h with h
  rw [← h]
  exact Nat.zero_le _
set_option maxRecDepth 4000 in
set_option maxHeartbeats 4000000 in
theorem read9_4 (s:ByteArray) (w:World) (hT:Lib.Utf8Tabs 1 2 w) :
  Calls Tryz.prog 21 #[.string s,.int .i64 4,.func (.func 26) #[] #[]] w fun e w'=>e = .returned (.bool true) ∧ Below w.heap.size w w':=by
 have HT:=Aside0.mk hT
 clear hT
 obtain ⟨bb,hbb,hb2⟩:=PFnReadString.short_tells s
 have HBB:=Aside0.mk hbb
 have HB2:=Aside0.mk hb2
 clear hbb hb2
 go_enter Tryz.func21,Tryz.ntmps21
 go_wp2_with fail
 refine (PFnReadString.laws_short9.calls 100100 s bb _ HBB.out).mono ?_
 rintro e w1 ⟨rfl,⟨m,rfl⟩⟩
 have HB1:=Aside0.mk (pw_below_drewN (Below.refl w.heap.size w) m)
 cases bb with
 | false=>
  go_wp2_with fail
  go_ret
  exact ⟨rfl,HB1.out⟩
 | true=>
 have hs:s.size ≤ 2000:=HB2.out rfl
 obtain ⟨⟨l,b,u⟩,hR⟩:∃ R,R = lexR s:=⟨_,rfl⟩
 have hsp:=specRead4_any s (w.drewN m) hs l b u hR.symm
 have hll:=lexR_length hs hR.symm
 have hok:PS.ok l ⟨0,0,0,false,false⟩:=⟨Int.le_refl _,by show (0:Int) ≤ _;omega,by omega⟩
 obtain ⟨o,ho⟩:∃ o,o = (if l = [] ∧ b = true then none else pargs l b (l.length + 1) 0):=⟨_,rfl⟩
 have hnd:∀ r,o = some r → r.1.flatten.length ≤ 2000:=fun r e=>by
  rw [ho] at e
  split at e
  ·cases e
  ·have:=pargs_nodes e;omega
 have hA:(argsd (vald 62 l) l ⟨0,0,0,false,false⟩).2.unsure = false → AgreeA l b (argsd (vald 62 l) l ⟨0,0,0,false,false⟩) o:=fun hu=>by
  rw [ho]
  split
  ·rename_i hlb
   have k1:=argsd_ok l 62 _ hok
   have k2:=k1.a0
   have k3:=k1.a1
   rw [hlb.1] at k2 k3
   rw [hlb.1]
   exact .inr ⟨hlb.2,by simp only [List.length_nil] at k2 k3 ⊢;omega⟩
  ·exact args_agree hll 62 (l.length + 1) ⟨0,0,0,false,false⟩ 0 rfl rfl (Nat.zero_le _) (by decide) (by omega) hu
 have HIM:Aside0 (∀ W,Lib.Utf8Tabs 1 2 W → u = false → Calls Tryz.prog 26 #[.string s] W fun e w'=>ImplA s l b o W.heap.size e w' ∧ Below W.heap.size W w'):=
  ⟨fun W hW hu=>implReadArguments_any s l b W hW hs (by rw [← hR,hu]) o ho hnd⟩
 obtain ⟨R,hRR⟩:∃ R,R = argsd (vald 62 l) l ⟨0,0,0,false,false⟩:=⟨_,rfl⟩
 rw [← hRR] at hsp hA
 have HA:=Aside0.mk hA
 have HND:=Aside0.mk hnd
 clear hA hnd ho hll
 obtain ⟨sure,hsu⟩:∃ x,x = (!u && !R.2.unsure):=⟨_,rfl⟩
 rw [← hsu] at hsp
 have HSP:=Aside0.mk hsp
 have HSU:=Aside0.mk hsu
 clear hsp hsu hok hR hRR
 go_wp2_with fail
 refine HSP.out.mono ?_
 rintro e w2 ⟨h1,hb2⟩
 have HBB2:=Aside0.mk (HB1.out.trans (hb2.mono HB1.out.size))
 have H1:=Aside0.mk h1
 clear hb2
 cases sure with
 | false=>
  obtain ⟨v1,n,ok,rfl⟩:=sure_or4 h1
  clear h1
  go_wp2_with fail
  go_ret
  exact ⟨rfl,HBB2.out⟩
 | true=>
 have hu2:u = false ∧ R.2.unsure = false:=by have:=HSU.out;revert this;cases u <;> cases R.2.unsure <;> simp
 have HIM2:=Aside0.mk (HIM.out w2 (tabs_below HT.out HBB2.out) hu2.1)
 have HA2:=Aside0.mk (HA.out hu2.2)
 obtain ⟨v1,n,ok,he⟩:=sure_or4 h1
 subst he
 clear h1 hu2 HIM HSU HA
 go_wp2_with fail
 refine HIM2.out.mono ?_
 rintro e w3 ⟨h2,hb3⟩
 have HBB3:=Aside0.mk (HBB2.out.trans (hb3.mono HBB2.out.size))
 have HKB:=Aside0.mk hb3
 clear hb3
 rcases both_say4 HA2.out H1.out h2 with ⟨h1,rfl⟩ | ⟨v1',v2,n',m',r,hor,h1,rfl,hnm,hfl,r1,r2⟩
 ·injection h1 with h1
  injection h1 with h1
  obtain ⟨rfl,rfl,rfl⟩:v1 = .slice none 0 0 ∧ n = 0 ∧ ok = false:=by simpa using h1
  clear h1 h2 H1
  go_wp2_with fail
  go_ret
  exact ⟨rfl,HBB3.out⟩
 ·injection h1 with h1
  injection h1 with h1
  obtain ⟨rfl,rfl,rfl⟩:v1 = v1' ∧ n = n' ∧ ok = true:=by simpa using h1
  clear h1 h2 H1
  obtain ⟨q,hq⟩:∃ q,q = r.1.flatten:=⟨_,rfl⟩
  have hql:q.length ≤ 2000:=by rw [hq];exact HND.out r hor
  rw [← hq] at hfl r2
  obtain ⟨A1,c1,rfl,-,C1⟩:=Kd.R_reads (Kd.R_below r1 HKB.out)
  obtain ⟨A2,c2,rfl,-,C2⟩:=Kd.R_reads r2
  have HSD:=Aside0.mk (sameFlat_any q R.1 A2 A1 c2 c1 w3 C2 C1 (by omega) hfl.symm)
  clear r1 r2 C1 C2 hfl hor hq hql HND HIM2 HA2 HBB HB2 HKB
  by_cases hn:n < 0
  ·have hnb:decide (n < 0) = true:=decide_eq_true hn
   clear hnm
   go_wp2_with fail
   refine HSD.out.mono ?_
   rintro e w4 ⟨rfl,hb4⟩
   have HB4:=Aside0.mk (HBB3.out.trans (hb4.mono HBB3.out.size))
   clear hb4
   go_wp2_with fail
   go_ret
   exact ⟨rfl,HB4.out⟩
  ·have hnb:decide (n < 0) = false:=decide_eq_false hn
   obtain rfl:m' = n:=by rcases hnm with h | h;exact absurd h hn;exact h
   go_wp2_with fail
   refine HSD.out.mono ?_
   rintro e w4 ⟨rfl,hb4⟩
   have HB4:=Aside0.mk (HBB3.out.trans (hb4.mono HBB3.out.size))
   clear hb4
   go_wp2_with fail
   go_ret
   exact ⟨rfl,HB4.out⟩
set_option maxHeartbeats 1000000 in
theorem lawReadArguments_any (s:ByteArray) (w:World) (hT:Lib.Utf8Tabs 1 2 w) :
  Calls Tryz.prog 8 #[.string s] w fun e w'=>e = .returned (.bool true) ∧ Below w.heap.size w w':=by
 have HL:=Aside0.mk (read9_4 s w hT)
 clear hT
 by_cases hs:(s.size:Int) ≤ 2147483647
 ·have b1:decide ((s.size:Int) > 2147483647) = false:=decide_eq_false (by omega)
  go_enter Tryz.func8,Tryz.ntmps8
  go_wp2_with fail
  refine HL.out.mono ?_
  rintro e w1 ⟨rfl,hb⟩
  have HB:=Aside0.mk hb
  clear hb
  go_wp2_with fail
  go_ret
  exact ⟨rfl,HB.out⟩
 ·have b1:decide ((s.size:Int) > 2147483647) = true:=decide_eq_true (by omega)
  go_enter Tryz.func8,Tryz.ntmps8
  go_wp2_with fail
  go_ret
  exact ⟨rfl,Below.refl _ _⟩
end Go.Proofs.YtbobbognjmofdaaGreatDoor.Lex
end
