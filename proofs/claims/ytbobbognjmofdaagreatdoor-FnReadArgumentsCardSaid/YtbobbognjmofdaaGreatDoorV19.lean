import Derived.Test.YtbobbognjmofdaaGreatDoorV18
import Derived.Test.YtbobbognjmofdaaGreatDoorV10
import Derived.Test.YtbobbognjmofdaaGreatDoorV03
import Derived.StillTailTactics
import Derived.Test.YtbobbognjmofdaaGreatDoorV04
import Derived.Test.YtbobbognjmofdaaGreatDoorV12
section
section
namespace Go.Proofs.YtbobbognjmofdaaGreatDoor.Lex
open Go.RowKit Go.Proofs.YtbobbognjmofdaaGreatDoorW.PrintWords Go.Proofs.YtbobbognjmofdaaGreatDoorW.PrintLast Go.Proofs.YtbobbognjmofdaaGreatDoorW.PrintMore
open Go.Proofs.YtbobbognjmofdaaGreatDoor.Ptext
set_option linter.unusedVariables false
set_option linter.unusedSimpArgs false
set_option maxRecDepth 4000 in
set_option maxHeartbeats 40000000 in
theorem token_any (base g:Nat) (x:LS) (w:World) (h:Lx w base g x) (hbase:base ≤ w.heap.size) (hi:0 ≤ x.at_) (hi2:x.at_ < x.s.size) (hs:x.s.size ≤ 2000) (hl:(x.out.length + 1) * 40 ≤ 140737488355328)
  (
  hpt:∀ p:Int,0 ≤ p → p < x.s.size → spec_Point.f 12 x.s p = some (ptS x.s p) ∧ ((ptS x.s p).2 = 0 ∨ 1 ≤ (ptS x.s p).2 ∧ (ptS x.s p).2 ≤ 4 ∧ p + (ptS x.s p).2 ≤ x.s.size)) :
  Calls Tryz.prog 37 #[.pointer (some ⟨g,0,none⟩)] w fun e w'=>e = .returned (.tuple #[]) ∧ Lx w' base g (x.stp (stp x.s x.at_ x.unsure)) ∧ Below base w w':=by
 have HX:=Aside0.mk h
 have HPT:=Aside0.mk hpt
 obtain ⟨v,c0,c1,c2,c3,c4,fz⟩:=h.cells
 clear h hpt
 obtain ⟨S,hS⟩:∃ S,S = stp x.s x.at_ x.unsure:=⟨_,rfl⟩
 rw [← hS]
 unfold stp at hS
 have hbx:=bt_at x.s x.at_
 obtain ⟨c,hc⟩:∃ c,c = bt x.s x.at_:=⟨_,rfl⟩
 rw [← hc] at hbx hS
 have hcr:=bt_range x.s x.at_
 rw [← hc] at hcr
 have HC:=Aside0.mk hc
 have HS:=Aside0.mk hS
 clear hc hS
 obtain ⟨p,hp⟩:∃ p,p = x.at_:=⟨_,rfl⟩
 rw [← hp] at hbx hi hi2
 have HP:=Aside0.mk hp
 have hsp:=HS.out
 rw [← hp] at hsp
 clear HS
 have HS:=Aside0.mk hsp
 rw [← hp] at c1
 clear hsp hp
 have hq1:=starts_tells x.s [239,187,191] p (by omega) (by omega) (by omega) (by simp) (by decide) (by decide)
 have hq2:=starts_tells x.s [46,46,46] p (by omega) (by omega) (by omega) (by simp) (by decide) (by decide)
 have hq3:=starts_tells x.s [34,34,34] p (by omega) (by omega) (by omega) (by simp) (by decide) (by decide)
 rw [st3_L] at hq1 hq2 hq3
 obtain ⟨b1,hb1⟩:∃ b,b = st3 x.s p ((239:UInt8).toNat:Int) ((187:UInt8).toNat:Int) ((191:UInt8).toNat:Int):=⟨_,rfl⟩
 obtain ⟨b2,hb2⟩:∃ b,b = st3 x.s p ((46:UInt8).toNat:Int) ((46:UInt8).toNat:Int) ((46:UInt8).toNat:Int):=⟨_,rfl⟩
 obtain ⟨b3,hb3⟩:∃ b,b = st3 x.s p ((34:UInt8).toNat:Int) ((34:UInt8).toNat:Int) ((34:UInt8).toNat:Int):=⟨_,rfl⟩
 rw [← hb1] at hq1
 rw [← hb2] at hq2
 rw [← hb3] at hq3
 have hsp:=HS.out
 rw [show st3 x.s p 239 187 191 = b1 from hb1.symm,show st3 x.s p 46 46 46 = b2 from hb2.symm,show st3 x.s p 34 34 34 = b3 from hb3.symm] at hsp
 clear HS
 have HS:=Aside0.mk hsp
 have HQ1:=Aside0.mk hq1
 have HQ2:=Aside0.mk hq2
 have HQ3:=Aside0.mk hq3
 clear hsp hb1 hb2 hb3 hq1 hq2 hq3
 go_enter Tryz.func37,Tryz.ntmps37
 go_wp2_with fail
 go_region
 have HW1:Aside0 (Lx w.drew base g x):=⟨HX.out.drew⟩
 have HB1:Aside0 (Below base w w.drew):=⟨below_drew1 (Below.refl _ _)⟩
 clear c0 c1 c2 c3 c4 fz v
 obtain ⟨w1,hw1⟩:∃ w1,w1 = w.drew:=⟨_,rfl⟩
 rw [← hw1] at HW1 HB1
 rw [← hw1]
 clear hw1
 obtain ⟨v,c0,c1,c2,c3,c4,fz⟩:=HW1.out.cells
 rw [← HP.out] at c1
 by_cases e1:c = 32 ∨ c = 9 ∨ c = 10 ∨ c = 13 ∨ c = 44
 ·have hfin:S = .skip (p + 1) x.unsure:=by rw [HS.out,if_pos e1]
  have HF:=Aside0.mk hfin
  clear hfin
  go_upto_region 2 with fail
  go_cut [15] (fun v15 wc=>v15 = .bool true ∧ wc = w1)
  case first=>
   rcases e1 with e | e | e | e | e
   all_goals
    subst e
    go_wp2_with fail
    go_meet
    case rel=>exact ⟨rfl,rfl⟩
  case rest=>
   obtain ⟨rfl,rfl⟩:=hcut
   clear e1
   go_wp2_with fail
   first | go_end0 | ((try simp only [Exit.inBlock,Exit.then]);refine bodyPost_ret (results_none rfl _ _ _) rfl ?_)
   rw [HF.out]
   exact ⟨rfl,HW1.out.set1 _,HW1.out.bset HB1.out 1 _⟩
 have hs1:=HS.out
 rw [if_neg e1] at hs1
 clear HS
 have HS:=Aside0.mk hs1
 have n1:(c == 32) = false:=by simp;omega
 have n2:(c == 9) = false:=by simp;omega
 have n3:(c == 10) = false:=by simp;omega
 have n4:(c == 13) = false:=by simp;omega
 have n5:(c == 44) = false:=by simp;omega
 clear hs1 e1
 go_upto_region 4 with fail
 go_cut [41] (fun vb wc=>vb = .bool b1 ∧ Drawn0 w1 wc)
 case first=>
  go_region_with (go_at_call 58;refine (PFnTokens.spec_starts.calls x.s p _ b1 _ HQ1.out).mono ?_;rintro e0 w2 ⟨rfl,hdw⟩;have HDW:=Aside0.mk hdw;clear hdw)
  all_goals
   (try go_wp2_with fail)
   go_meet
   case rel=>exact ⟨rfl,by obtain ⟨m9,rfl⟩:=HDW.out;exact ⟨⟨1 + m9,World.drewN_drewN (w:=w1) (n:=1) (m:=m9)⟩⟩⟩
 case rest=>
 obtain ⟨rfl,hdw⟩:=hcut
 obtain ⟨w2,rfl⟩:∃ w9,w9 = wc:=⟨_,rfl⟩
 have HW2:Aside0 (Lx w2 base g x):=by obtain ⟨m9,rfl⟩:=hdw;exact ⟨HW1.out.drewN m9⟩
 have HB2:Aside0 (Below base w w2):=by obtain ⟨m9,rfl⟩:=hdw;exact ⟨pw_below_drewN HB1.out m9⟩
 clear hdw c0 c1 c2 c3 c4 fz v
 obtain ⟨v,c0,c1,c2,c3,c4,fz⟩:=HW2.out.cells
 rw [← HP.out] at c1
 cases b1 with
 | true=>
  have hfin:S = .skip (p + 3) true:=by rw [HS.out,if_pos rfl]
  have HF:=Aside0.mk hfin
  clear hfin
  have HL5:=Aside0.mk (HW2.out.set4 true)
  have HB5:=Aside0.mk (HW2.out.bset HB2.out 4 (.bool true))
  go_wp2_with fail
  first | go_end0 | ((try simp only [Exit.inBlock,Exit.then]);refine bodyPost_ret (results_none rfl _ _ _) rfl ?_)
  rw [HF.out]
  exact ⟨rfl,HL5.out.set1 _,HL5.out.bset HB5.out 1 _⟩
 | false=>
 have hs1:=HS.out
 rw [if_neg (by simp)] at hs1
 clear HS
 have HS:=Aside0.mk hs1
 clear hs1
 by_cases e3:c = 35
 ·have hfin:S = cm x.s (x.s.size + 1) p x.unsure:=by rw [HS.out,if_pos e3]
  have HF:=Aside0.mk hfin
  have n6:(c == 35) = true:=by simp [e3]
  clear hfin e3
  go_wp2_with fail
  refine (comment_any base g x _ HW2.out (Nat.le_trans hbase HB2.out.size) (by rw [← HP.out];exact hi) (by rw [← HP.out];omega) hs HPT.out).mono ?_
  rintro e0 w3 ⟨rfl,hX,hB⟩
  have HX3:=Aside0.mk hX
  have HB3:=Aside0.mk (HB2.out.trans hB)
  clear hX hB
  go_wp2_with fail
  first | go_end0 | ((try simp only [Exit.inBlock,Exit.then]);refine bodyPost_ret (results_none rfl _ _ _) rfl ?_)
  rw [HF.out,HP.out]
  exact ⟨rfl,HX3.out,HB3.out⟩
 have hs1:=HS.out
 rw [if_neg e3] at hs1
 clear HS
 have HS:=Aside0.mk hs1
 have n6:(c == 35) = false:=by simp [e3]
 clear hs1 e3
 go_upto_region 9 with fail
 go_cut [66] (fun vb wc=>vb = .bool b2 ∧ Drawn0 w2 wc)
 case first=>
  go_region_with (go_at_call 58;refine (PFnTokens.spec_starts.calls x.s p _ b2 _ HQ2.out).mono ?_;rintro e0 w3 ⟨rfl,hdw⟩;have HDW:=Aside0.mk hdw;clear hdw)
  all_goals
   (try go_wp2_with fail)
   go_meet
   case rel=>exact ⟨rfl,by obtain ⟨m9,rfl⟩:=HDW.out;exact ⟨⟨1 + m9,World.drewN_drewN (w:=w2) (n:=1) (m:=m9)⟩⟩⟩
 case rest=>
 obtain ⟨rfl,hdw⟩:=hcut
 obtain ⟨w3,rfl⟩:∃ w9,w9 = wc:=⟨_,rfl⟩
 have HW3:Aside0 (Lx w3 base g x):=by obtain ⟨m9,rfl⟩:=hdw;exact ⟨HW2.out.drewN m9⟩
 have HB3:Aside0 (Below base w w3):=by obtain ⟨m9,rfl⟩:=hdw;exact ⟨pw_below_drewN HB2.out m9⟩
 clear hdw c0 c1 c2 c3 c4 fz v
 obtain ⟨v,c0,c1,c2,c3,c4,fz⟩:=HW3.out.cells
 rw [← HP.out] at c1
 cases b2 with
 | true=>
  have hfin:S = .tok 6 ⟨#[]⟩ (p + 3) x.unsure:=by rw [HS.out,if_pos rfl]
  have HF:=Aside0.mk hfin
  clear hfin
  go_wp2_with fail
  refine (add_any base g x 6 (p + 3) ⟨#[]⟩ _ HW3.out (Nat.le_trans hbase HB3.out.size) hl).mono ?_
  rintro e0 w4 ⟨rfl,hX,hB⟩
  have HX4:=Aside0.mk hX
  have HB4:=Aside0.mk (HB3.out.trans hB)
  clear hX hB
  go_wp2_with fail
  first | go_end0 | ((try simp only [Exit.inBlock,Exit.then]);refine bodyPost_ret (results_none rfl _ _ _) rfl ?_)
  rw [HF.out]
  exact ⟨rfl,HX4.out,HB4.out⟩
 | false=>
 have hs1:=HS.out
 rw [if_neg (by simp)] at hs1
 clear HS
 have HS:=Aside0.mk hs1
 clear hs1
 go_wp2_with fail
 refine (PFnTokens.spec_sign.calls c _ _ (sgn_tells c)).mono ?_
 rintro e0 w4 ⟨rfl,hdw⟩
 have HW4:Aside0 (Lx w4 base g x):=by obtain ⟨m9,rfl⟩:=hdw;exact ⟨HW3.out.drewN m9⟩
 have HB4:Aside0 (Below base w w4):=by obtain ⟨m9,rfl⟩:=hdw;exact ⟨pw_below_drewN HB3.out m9⟩
 clear hdw c0 c1 c2 c3 c4 fz v
 obtain ⟨v,c0,c1,c2,c3,c4,fz⟩:=HW4.out.cells
 rw [← HP.out] at c1
 obtain ⟨sg,hsg⟩:∃ sg,sg = sgn c:=⟨_,rfl⟩
 have hs1:=HS.out
 rw [← hsg] at hs1
 rw [← hsg]
 clear HS
 have HS:=Aside0.mk hs1
 have HSG:=Aside0.mk hsg
 have HSGT:=Aside0.mk (show PFnTokens.spec_sign.f c = some sg by rw [hsg];exact sgn_tells c)
 clear hs1 hsg
 by_cases e3:0 < sg
 ·have hfin:S = .tok sg ⟨#[]⟩ (p + 1) x.unsure:=by rw [HS.out,if_pos e3]
  have HF:=Aside0.mk hfin
  have n7:decide (sg > 0) = true:=decide_eq_true e3
  have hwr:IntKind.i64.wrap (p + 1) = p + 1:=by rw [i64_w];unfold wrap64;omega
  clear hfin e3
  go_wp2_with fail
  go_region_with (first | (go_at_call 60;refine (PFnTokens.spec_sign.calls c sg _ HSGT.out).mono ?_;rintro e0 w8 ⟨rfl,hdw⟩;have HW8:Aside0 (Lx w8 base g x):=(by obtain ⟨m9,rfl⟩:=hdw;exact ⟨HW4.out.drew.drewN m9⟩);have HB8:Aside0 (Below base w w8):=(by obtain ⟨m9,rfl⟩:=hdw;exact ⟨pw_below_drewN (below_drew1 HB4.out) m9⟩);clear hdw c0 c1 c2 c3 c4 fz v;obtain ⟨v,c0,c1,c2,c3,c4,fz⟩:=HW8.out.cells;rw [← HP.out] at c1) | (go_at_call 53;refine (add_any base g x sg (p + 1) ⟨#[]⟩ _ HW8.out (Nat.le_trans hbase HB8.out.size) hl).mono ?_;rintro e0 w9 ⟨rfl,hX,hB⟩;have HX9:=Aside0.mk hX;have HB9:=Aside0.mk (HB8.out.trans hB);clear hX hB))
  all_goals
   (try go_wp2_with fail)
   first | go_end0 | ((try simp only [Exit.inBlock,Exit.then]);refine bodyPost_ret (results_none rfl _ _ _) rfl ?_)
   rw [HF.out]
   exact ⟨rfl,HX9.out,HB9.out⟩
 have hs1:=HS.out
 rw [if_neg e3] at hs1
 clear HS
 have HS:=Aside0.mk hs1
 have n7:decide (sg > 0) = false:=decide_eq_false e3
 clear hs1 e3
 go_wp2_with fail
 refine (PFnTokens.spec_isBegin.calls c _ _ (isBg_tells c)).mono ?_
 rintro e0 w5 ⟨rfl,hdw⟩
 have HW5:Aside0 (Lx w5 base g x):=by obtain ⟨m9,rfl⟩:=hdw;exact ⟨HW4.out.drewN m9⟩
 have HB5:Aside0 (Below base w w5):=by obtain ⟨m9,rfl⟩:=hdw;exact ⟨pw_below_drewN HB4.out m9⟩
 clear hdw c0 c1 c2 c3 c4 fz v
 obtain ⟨v,c0,c1,c2,c3,c4,fz⟩:=HW5.out.cells
 rw [← HP.out] at c1
 cases hbg:isBg c with
 | true=>
  have hfin:S = .tok 15 (x.s.extract p.toNat (nme x.s p).toNat) (nme x.s p) x.unsure:=by rw [HS.out,if_pos hbg]
  have HF:=Aside0.mk hfin
  clear hfin
  obtain ⟨R,hR⟩:∃ R,R = nme x.s p:=⟨_,rfl⟩
  have hr1:=(nme_le x.s p).1
  have hr2:=(nme_le x.s p).2 (by omega)
  rw [← hR] at hr1 hr2
  have HR:=Aside0.mk hR
  clear hR
  go_wp2_with fail
  clear c0 c1 c2 c3 c4 fz v
  go_loopg [3] ((x.s.size:Int) - p).toNat (fun kq v3 wr=>∃ (q:Int),v3 = .int .i64 q ∧ Aside0 (p ≤ q ∧ q ≤ 100000 ∧ kq = ((x.s.size:Int) - q).toNat ∧ nme x.s q = R ∧ Lx wr base g x ∧ Below base w wr))
  case atStart=>exact ⟨p,rfl,⟨by omega,by omega,rfl,HR.out.symm,HW5.out,HB5.out⟩⟩
  case round=>
   obtain ⟨q,rfl,HA⟩:=hrel
   have hq0:=HA.out.1
   have hq1:=HA.out.2.1
   have HL:=Aside0.mk HA.out.2.2.2.2.1
   have HBB:=Aside0.mk HA.out.2.2.2.2.2
   obtain ⟨d,hd⟩:∃ d,d = nx x.s q:=⟨_,rfl⟩
   have HD:=Aside0.mk hd
   clear hd
   obtain ⟨bb,hbb⟩:∃ b,b = isNm d:=⟨_,rfl⟩
   have HBN:=Aside0.mk hbb
   clear hbb
   go_upto_region 15 with fail
   go_cut [112] (fun vb wc=>vb = .bool bb ∧ Drawn0 wr wc)
   case first=>
    go_wp2_with fail
    refine (next_any base g x q _ HL.out (by omega)).mono ?_
    rintro e0 w6 ⟨rfl,⟨m6,rfl⟩⟩
    rw [← HD.out]
    go_wp2_with fail
    refine (PFnTokens.spec_isBegin.calls d _ _ (isBg_tells d)).mono ?_
    rintro e0 w7 ⟨rfl,⟨m7,rfl⟩⟩
    have hnm:isNm d = (isBg d || isDg d):=rfl
    cases hx:isBg d with
    | true=>
     rw [hx] at hnm
     have h1:bb = true:=by rw [HBN.out,hnm];rfl
     have H1:=Aside0.mk h1
     clear h1 hnm
     go_wp2_with fail
     go_meet
     case rel=>exact ⟨by rw [H1.out],⟨_,rfl⟩⟩
    | false=>
     rw [hx] at hnm
     have h1:bb = isDg d:=by rw [HBN.out,hnm];rfl
     have H1:=Aside0.mk h1
     clear h1 hnm
     go_wp2_with fail
     refine (next_any base g x q _ (HL.out.drewN _) (by omega)).mono ?_
     rintro e0 w8 ⟨rfl,⟨m8,rfl⟩⟩
     rw [← HD.out]
     go_wp2_with fail
     refine (PFnTokens.spec_isDigit.calls d _ _ (isDg_tells d)).mono ?_
     rintro e0 w8 ⟨rfl,⟨m9,rfl⟩⟩
     go_wp2_with fail
     go_meet
     case rel=>exact ⟨by rw [H1.out],⟨_,rfl⟩⟩
   case rest=>
   obtain ⟨rfl,hdw⟩:=hcut
   obtain ⟨w9,rfl⟩:∃ w9,w9 = wc:=⟨_,rfl⟩
   have HW9:Aside0 (Lx w9 base g x):=by obtain ⟨m9,rfl⟩:=hdw;exact ⟨HL.out.drewN m9⟩
   have HB9:Aside0 (Below base w w9):=by obtain ⟨m9,rfl⟩:=hdw;exact ⟨pw_below_drewN HBB.out m9⟩
   clear hdw
   obtain ⟨v,c0,c1,c2,c3,c4,fz⟩:=HW9.out.cells
   rw [← HP.out] at c1
   cases hbb:bb with
   | true=>
    have hb2:=HBN.out
    rw [hbb] at hb2
    have hlt:q < (x.s.size:Int):=nx_in (by rw [← HD.out];intro h0;rw [h0] at hb2;cases hb2)
    have hn:nme x.s (q + 1) = R:=by rw [← HA.out.2.2.2.1,nme_eq x.s q,← HD.out,if_pos hb2.symm]
    have HN:=Aside0.mk hn
    clear hn hb2 hbb
    go_wp2_with fail
    go_roundg ((x.s.size:Int) - (q + 1)).toNat
    case measure=>have:=HA.out.2.2.1;omega
    case rel=>exact ⟨q + 1,rfl,⟨by omega,by omega,rfl,HN.out,HW9.out,HB9.out⟩⟩
   | false=>
    have hb2:=HBN.out
    rw [hbb] at hb2
    have hn:q = R:=by rw [← HA.out.2.2.2.1,nme_eq x.s q,← HD.out,if_neg (by rw [← hb2];simp)]
    subst hn
    obtain ⟨tx,htx⟩:∃ tx,tx = x.s.extract p.toNat q.toNat:=⟨_,rfl⟩
    have ks:=fun W=>slice_str x.s p q (by omega) (by omega) hr2 W
    rw [← htx] at ks
    have HTX:=Aside0.mk htx
    clear hb2 hbb htx
    go_wp2_with fail
    go_region_with (go_at_call 53;refine (add_any base g x 15 q tx _ ?_ ?_ hl).mono ?_;exact HW9.out.drewN 1;exact Nat.le_trans hbase HB9.out.size;rintro e0 w3 ⟨rfl,hX3,hB3⟩;have HX4:=Aside0.mk hX3;have HB4:=Aside0.mk ((pw_below_drewN HB9.out 1).trans hB3);clear hX3 hB3)
    all_goals
     (try go_wp2_with fail)
     first | go_end0 | ((try simp only [Exit.inBlock,Exit.then]);refine bodyPost_ret (results_none rfl _ _ _) rfl ?_)
     rw [HF.out,← HR.out,← HTX.out]
     exact ⟨rfl,HX4.out,HB4.out⟩
 | false=>
 have hs1:=HS.out
 rw [if_neg (by simp [hbg])] at hs1
 clear HS
 have HS:=Aside0.mk hs1
 clear hs1
 go_upto_region 18 with fail
 go_cut [128] (fun vb wc=>vb = .bool (c == 45 || isDg c) ∧ Drawn0 w5 wc)
 case first=>
  by_cases e4:c = 45
  ·have n8:(c == 45) = true:=by simp [e4]
   clear e4
   go_wp2_with fail
   go_meet
   case rel=>exact ⟨by rw [n8];rfl,Drawn0.refl _⟩
  ·have n8:(c == 45) = false:=by simp [e4]
   clear e4
   go_wp2_with fail
   refine (PFnTokens.spec_isDigit.calls c _ _ (isDg_tells c)).mono ?_
   rintro e0 w6 ⟨rfl,hdw⟩
   have HDW:=Aside0.mk hdw
   clear hdw
   go_wp2_with fail
   go_meet
   case rel=>exact ⟨by rw [n8];rfl,HDW.out⟩
 case rest=>
 obtain ⟨rfl,hdw⟩:=hcut
 obtain ⟨w6,rfl⟩:∃ w9,w9 = wc:=⟨_,rfl⟩
 have HW6:Aside0 (Lx w6 base g x):=by obtain ⟨m9,rfl⟩:=hdw;exact ⟨HW5.out.drewN m9⟩
 have HB6:Aside0 (Below base w w6):=by obtain ⟨m9,rfl⟩:=hdw;exact ⟨pw_below_drewN HB5.out m9⟩
 clear hdw c0 c1 c2 c3 c4 fz v
 obtain ⟨v,c0,c1,c2,c3,c4,fz⟩:=HW6.out.cells
 rw [← HP.out] at c1
 cases hnb:(c == 45 || isDg c) with
 | true=>
  have hfin:S = nums x.s p x.unsure:=by rw [HS.out,if_pos (by simpa using hnb)]
  have HF:=Aside0.mk hfin
  clear hfin
  go_wp2_with fail
  refine (number_any base g x _ HW6.out (Nat.le_trans hbase HB6.out.size) (by rw [← HP.out];exact hi) (by rw [← HP.out];omega) hs hl).mono ?_
  rintro e0 w7 ⟨rfl,hX,hB⟩
  have HX4:=Aside0.mk hX
  have HB4:=Aside0.mk (HB6.out.trans hB)
  clear hX hB
  go_wp2_with fail
  first | go_end0 | ((try simp only [Exit.inBlock,Exit.then]);refine bodyPost_ret (results_none rfl _ _ _) rfl ?_)
  rw [HF.out,HP.out]
  exact ⟨rfl,HX4.out,HB4.out⟩
 | false=>
 have hs1:=HS.out
 rw [if_neg (by simpa using hnb)] at hs1
 clear HS
 have HS:=Aside0.mk hs1
 clear hs1
 go_upto_region 20 with fail
 go_cut [137] (fun vb wc=>vb = .bool b3 ∧ Drawn0 w6 wc)
 case first=>
  go_region_with (go_at_call 58;refine (PFnTokens.spec_starts.calls x.s p _ b3 _ HQ3.out).mono ?_;rintro e0 w7 ⟨rfl,hdw⟩;have HDW:=Aside0.mk hdw;clear hdw)
  all_goals
   (try go_wp2_with fail)
   go_meet
   case rel=>exact ⟨rfl,by obtain ⟨m9,rfl⟩:=HDW.out;exact ⟨⟨1 + m9,World.drewN_drewN (w:=w6) (n:=1) (m:=m9)⟩⟩⟩
 case rest=>
 obtain ⟨rfl,hdw⟩:=hcut
 obtain ⟨w7,rfl⟩:∃ w9,w9 = wc:=⟨_,rfl⟩
 have HW7:Aside0 (Lx w7 base g x):=by obtain ⟨m9,rfl⟩:=hdw;exact ⟨HW6.out.drewN m9⟩
 have HB7:Aside0 (Below base w w7):=by obtain ⟨m9,rfl⟩:=hdw;exact ⟨pw_below_drewN HB6.out m9⟩
 clear hdw c0 c1 c2 c3 c4 fz v
 obtain ⟨v,c0,c1,c2,c3,c4,fz⟩:=HW7.out.cells
 rw [← HP.out] at c1
 cases b3 with
 | true=>
  have hfin:S = ofBlk p (blk x.s (x.s.size + 1) (p + 3) ⟨#[]⟩ x.unsure):=by rw [HS.out,if_pos rfl]
  have HF:=Aside0.mk hfin
  clear hfin
  go_wp2_with fail
  refine (block_any base g x _ HW7.out (Nat.le_trans hbase HB7.out.size) (by rw [← HP.out];exact hi) (by rw [← HP.out];omega) hs hl HPT.out).mono ?_
  rintro e0 w8 ⟨rfl,hX,hB⟩
  have HX4:=Aside0.mk hX
  have HB4:=Aside0.mk (HB7.out.trans hB)
  clear hX hB
  go_wp2_with fail
  first | go_end0 | ((try simp only [Exit.inBlock,Exit.then]);refine bodyPost_ret (results_none rfl _ _ _) rfl ?_)
  rw [HF.out,HP.out]
  exact ⟨rfl,HX4.out,HB4.out⟩
 | false=>
 have hs1:=HS.out
 rw [if_neg (by simp)] at hs1
 clear HS
 have HS:=Aside0.mk hs1
 clear hs1
 by_cases e5:c = 34
 ·have hfin:S = ofTxt p 18 (txt x.s (x.s.size + 1) (p + 1) ⟨#[]⟩ x.unsure):=by rw [HS.out,if_pos e5]
  have HF:=Aside0.mk hfin
  have n9:(c == 34) = true:=by simp [e5]
  clear hfin e5
  go_wp2_with fail
  refine (text_any base g x _ HW7.out (Nat.le_trans hbase HB7.out.size) (by rw [← HP.out];exact hi) (by rw [← HP.out];omega) hs hl HPT.out).mono ?_
  rintro e0 w8 ⟨rfl,hX,hB⟩
  rw [after_stp] at hX
  have HX4:=Aside0.mk hX
  have HB4:=Aside0.mk (HB7.out.trans hB)
  clear hX hB
  go_wp2_with fail
  first | go_end0 | ((try simp only [Exit.inBlock,Exit.then]);refine bodyPost_ret (results_none rfl _ _ _) rfl ?_)
  rw [HF.out,HP.out]
  exact ⟨rfl,HX4.out,HB4.out⟩
 ·have hfin:S = .bad p x.unsure:=by rw [HS.out,if_neg e5]
  have HF:=Aside0.mk hfin
  have n9:(c == 34) = false:=by simp [e5]
  clear hfin e5
  go_wp2_with fail
  refine (fail_any base g x _ HW7.out).mono ?_
  rintro e0 w8 ⟨rfl,hX,hB⟩
  have HX4:=Aside0.mk hX
  have HB4:=Aside0.mk (HB7.out.trans hB)
  clear hX hB
  go_wp2_with fail
  first | go_end0 | ((try simp only [Exit.inBlock,Exit.then]);refine bodyPost_ret (results_none rfl _ _ _) rfl ?_)
  rw [HF.out,HP.out]
  exact ⟨rfl,HX4.out,HB4.out⟩
end Go.Proofs.YtbobbognjmofdaaGreatDoor.Lex
end
end
section
section
namespace Go.Proofs.YtbobbognjmofdaaGreatDoor.Lex
open Go.RowKit Go.Proofs.YtbobbognjmofdaaGreatDoorW.PrintWords Go.Proofs.YtbobbognjmofdaaGreatDoorW.PrintLast Go.Proofs.YtbobbognjmofdaaGreatDoorW.PrintMore
open Go.Proofs.YtbobbognjmofdaaGreatDoor.Ptext
set_option linter.unusedVariables false
set_option linter.unusedSimpArgs false
end Go.Proofs.YtbobbognjmofdaaGreatDoor.Lex
end
section
namespace Go.Proofs.YtbobbognjmofdaaGreatDoor.Lex
open Go.RowKit Go.Proofs.YtbobbognjmofdaaGreatDoorW.PrintWords Go.Proofs.YtbobbognjmofdaaGreatDoorW.PrintLast Go.Proofs.YtbobbognjmofdaaGreatDoorW.PrintMore
open Go.Proofs.YtbobbognjmofdaaGreatDoor.Ptext
set_option linter.unusedVariables false
set_option linter.unusedSimpArgs false
theorem stp_kind {s:ByteArray} {p:Int} {u:Bool} {k:Int} {v:ByteArray} {e:Int} {u':Bool} (h:stp s p u = .tok k v e u'):k ≠ 1:=by
 unfold stp at h
 by_cases h1:bt s p = 32 ∨ bt s p = 9 ∨ bt s p = 10 ∨ bt s p = 13 ∨ bt s p = 44
 ·rw [if_pos h1] at h;cases h
 rw [if_neg h1] at h
 by_cases h2:st3 s p 239 187 191 = true
 ·rw [if_pos h2] at h;cases h
 rw [if_neg h2] at h
 by_cases h3:bt s p = 35
 ·rw [if_pos h3] at h
  exfalso
  have:∀ (j:Nat) (p:Int) (u:Bool),cm s j p u ≠ .tok k v e u':=by
   intro j
   induction j with
   | zero=>intro p u h;cases h
   | succ j ih=>
    intro p u
    rw [cm]
    split
    ·intro h;cases h
    split
    ·intro h;cases h
    split
    ·intro h;cases h
    exact ih _ _
  exact this _ _ _ h
 rw [if_neg h3] at h
 by_cases h4:st3 s p 46 46 46 = true
 ·rw [if_pos h4] at h;injection h with q1;omega
 rw [if_neg h4] at h
 by_cases h5:0 < sgn (bt s p)
 ·rw [if_pos h5] at h
  injection h with q1
  rw [← q1]
  unfold sgn
  (repeat' split) <;> omega
 rw [if_neg h5] at h
 by_cases h6:isBg (bt s p) = true
 ·rw [if_pos h6] at h;injection h with q1;omega
 rw [if_neg h6] at h
 by_cases h7:bt s p = 45 ∨ isDg (bt s p) = true
 ·rw [if_pos h7] at h
  unfold nums at h
  cases hn:num s p with
  | none=>rw [hn] at h;cases h
  | some q=>
   obtain ⟨k1,e1⟩:=q
   have hk:=(num_in hn).1
   rw [hn] at h
   have h:(if nx s e1 = 46 ∨ isBg (nx s e1) = true then Stp.bad p true else .tok k1 (s.extract p.toNat e1.toNat) e1 u) = .tok k v e u':=h
   by_cases h8:nx s e1 = 46 ∨ isBg (nx s e1) = true
   ·rw [if_pos h8] at h;cases h
   ·rw [if_neg h8] at h;injection h with q1;omega
 rw [if_neg h7] at h
 by_cases h8:st3 s p 34 34 34 = true
 ·rw [if_pos h8] at h
  obtain ⟨r,hr⟩:∃ r,r = blk s (s.size + 1) (p + 3) ⟨#[]⟩ u:=⟨_,rfl⟩
  rw [← hr] at h
  obtain ⟨a,b⟩:=r
  cases a with
  | none=>cases h
  | some q=>injection h with q1;omega
 rw [if_neg h8] at h
 by_cases h9:bt s p = 34
 ·rw [if_pos h9] at h
  obtain ⟨r,hr⟩:∃ r,r = txt s (s.size + 1) (p + 1) ⟨#[]⟩ u:=⟨_,rfl⟩
  rw [← hr] at h
  obtain ⟨a,b⟩:=r
  cases a with
  | none=>cases h
  | some q=>injection h with q1;omega
 rw [if_neg h9] at h
 cases h
end Go.Proofs.YtbobbognjmofdaaGreatDoor.Lex
end
end
section
namespace Go.Proofs.YtbobbognjmofdaaGreatDoor.Lex
open Go.RowKit Go.Proofs.YtbobbognjmofdaaGreatDoorW.PrintWords Go.Proofs.YtbobbognjmofdaaGreatDoorW.PrintLast Go.Proofs.YtbobbognjmofdaaGreatDoorW.PrintMore
open Go.Proofs.YtbobbognjmofdaaGreatDoor.Ptext
set_option linter.unusedVariables false
set_option linter.unusedSimpArgs false
def lexd (s:ByteArray):Nat → Int → Bool → List S24 → List S24 × Bool × Bool
 | 0,_,u,l=>(l,false,u)
 | k + 1,p,u,l=>
  if (s.size:Int) ≤ p then (l,false,u)
  else match stp s p u with
   | .skip q v=>lexd s k q v l
   | .bad _ v=>(l,true,v)
   | .tok kd v e u'=>lexd s k e u' (l ++ [⟨kd,v,p,e⟩])
theorem lexd_uns (s:ByteArray):∀ (k:Nat) (p:Int) (l:List S24),(lexd s k p true l).2.2 = true
 | 0,p,l=>rfl
 | k + 1,p,l=>by
  rw [lexd]
  have h:=stp_uns s p
  split
  ·rfl
  ·split
   ·rename_i q u' he
    rw [he] at h
    have h:u' = true:=h
    subst h
    exact lexd_uns s k _ _
   ·rename_i q u' he
    rw [he] at h
    exact h
   ·rename_i a b c u' he
    rw [he] at h
    have h:u' = true:=h
    subst h
    exact lexd_uns s k _ _
theorem lexd_sure {s:ByteArray} {k:Nat} {p:Int} {u:Bool} {l:List S24} {R:List S24 × Bool × Bool} (h:lexd s k p u l = R) (hR:R.2.2 = false):u = false:=by
 cases u with
 | false=>rfl
 | true=>
  have:=lexd_uns s k p l
  rw [h,hR] at this
  cases this
inductive Goes (s:ByteArray) (R:List S24 × Bool × Bool) (p:Int) (l:List S24):Option S24 → Prop where
 | bad (h:R = (l,true,false)):Goes s R p l none
 | fin (h:R = (l,false,false)):Goes s R p l (some ⟨1,⟨#[]⟩,s.size,s.size⟩)
 | tok (t:S24) (k:Nat) (hk:t.f0 ≠ 1) (h1:p < t.f3) (h2:t.f3 ≤ s.size) (h3:(s.size:Int) < t.f3 + k) (h:lexd s k t.f3 false (l ++ [t]) = R):Goes s R p l (some t)
theorem Goes.mono {s:ByteArray} {R:List S24 × Bool × Bool} {p q:Int} {l:List S24} {N:Option S24} (h:Goes s R q l N) (hp:p ≤ q):Goes s R p l N:=by
 cases h with
 | bad h=>exact .bad h
 | fin h=>exact .fin h
 | tok t k hk h1 h2 h3 h=>exact .tok t k hk (by omega) h2 h3 h
theorem lexd_goes (s:ByteArray) (hpt:∀ p:Int,0 ≤ p → p < s.size → ((ptS s p).2 = 0 ∨ 1 ≤ (ptS s p).2 ∧ (ptS s p).2 ≤ 4 ∧ p + (ptS s p).2 ≤ s.size)) (R:List S24 × Bool × Bool) (hR:R.2.2 = false) :
  ∀ (k:Nat) (p:Int) (l:List S24),0 ≤ p → p ≤ s.size → (s.size:Int) < p + k → lexd s k p false l = R → ∃ N,nxt s k p false = (N,false) ∧ Goes s R p l N
 | 0,p,l,h0,hp,hk,h=>by omega
 | k + 1,p,l,h0,hp,hk,h=>by
  rw [lexd] at h
  rw [nxt]
  by_cases hz:(s.size:Int) ≤ p
  ·rw [if_pos hz] at h ⊢
   exact ⟨_,rfl,.fin h.symm⟩
  rw [if_neg hz] at h ⊢
  have hf:=stp_fits s hpt p false h0 (by omega)
  cases hx:stp s p false with
  | skip q v=>
   rw [hx] at h hf
   obtain ⟨h4,h5⟩:=hf
   have h:lexd s k q v l = R:=h
   obtain rfl:=lexd_sure h hR
   obtain ⟨N,hN,hG⟩:=lexd_goes s hpt R hR k q l (by omega) h5 (by omega) h
   exact ⟨N,hN,hG.mono (by omega)⟩
  | bad q v=>
   rw [hx] at h
   have h:(l,true,v) = R:=h
   have hv:v = false:=by rw [← h] at hR;exact hR
   subst hv
   exact ⟨none,rfl,.bad h.symm⟩
  | tok a b c d=>
   rw [hx] at h hf
   obtain ⟨h4,h5⟩:=hf
   have h:lexd s k c d (l ++ [⟨a,b,p,c⟩]) = R:=h
   obtain rfl:=lexd_sure h hR
   exact ⟨_,rfl,.tok ⟨a,b,p,c⟩ k (stp_kind hx) h4 h5 (by show (s.size:Int) < c + k;omega) h⟩
inductive Run (s:ByteArray) (R:List S24 × Bool × Bool):Nat → LS → Prop where
 | run (j:Nat) (p:Int) (u:Bool) (l:List S24) (h0:0 ≤ p) (h1:p ≤ s.size) (h2:(s.size:Int) < p + j) (hl:(l.length:Int) ≤ p) (h3:lexd s j p u l = R):Run s R (j + 1) ⟨s,p,l,false,u⟩
 | bad (k:Nat) (p:Int) (u:Bool) (l:List S24) (h:R = (l,true,u)):Run s R k ⟨s,p,l,true,u⟩
theorem run_step {s:ByteArray} {R:List S24 × Bool × Bool} {j:Nat} {p:Int} {u:Bool} {l:List S24} (hpt:∀ p:Int,0 ≤ p → p < s.size → ((ptS s p).2 = 0 ∨ 1 ≤ (ptS s p).2 ∧ (ptS s p).2 ≤ 4 ∧ p + (ptS s p).2 ≤ s.size))
  (h0:0 ≤ p) (hp:p < s.size) (h2:(s.size:Int) < p + j) (hl:(l.length:Int) ≤ p) (h3:lexd s j p u l = R):Run s R j (LS.stp ⟨s,p,l,false,u⟩ (stp s p u)):=by
 have hf:=stp_fits s hpt p u h0 hp
 obtain ⟨j,rfl⟩:∃ i,j = i + 1:=⟨j - 1,by omega⟩
 rw [lexd,if_neg (by omega)] at h3
 cases hx:stp s p u with
 | skip q v=>
  rw [hx] at h3 hf
  obtain ⟨h4,h5⟩:=hf
  exact .run j q v l (by omega) h5 (by omega) (by omega) h3
 | bad q v=>
  rw [hx] at h3
  exact .bad _ q v l h3.symm
 | tok k v e u'=>
  rw [hx] at h3 hf
  obtain ⟨h4,h5⟩:=hf
  exact .run j e u' _ (by omega) h5 (by omega) (by simp;omega) h3
theorem lexd_length (s:ByteArray) (hpt:∀ p:Int,0 ≤ p → p < s.size → ((ptS s p).2 = 0 ∨ 1 ≤ (ptS s p).2 ∧ (ptS s p).2 ≤ 4 ∧ p + (ptS s p).2 ≤ s.size)) :
  ∀ (k:Nat) (p:Int) (u:Bool) (l:List S24),0 ≤ p → p ≤ s.size → (l.length:Int) ≤ p → (((lexd s k p u l).1.length:Nat):Int) ≤ s.size
 | 0,p,u,l,h0,hp,hl=>by
  show (l.length:Int) ≤ s.size
  omega
 | k + 1,p,u,l,h0,hp,hl=>by
  rw [lexd]
  by_cases hz:(s.size:Int) ≤ p
  ·rw [if_pos hz]
   show (l.length:Int) ≤ s.size
   omega
  rw [if_neg hz]
  have hf:=stp_fits s hpt p u h0 (by omega)
  cases hx:stp s p u with
  | skip q v=>
   rw [hx] at hf
   obtain ⟨h4,h5⟩:=hf
   exact lexd_length s hpt k q v l (by omega) h5 (by omega)
  | bad q v=>
   show (l.length:Int) ≤ s.size
   omega
  | tok a b c d=>
   rw [hx] at hf
   obtain ⟨h4,h5⟩:=hf
   exact lexd_length s hpt k c d _ (by omega) h5 (by simp;omega)
def lexR (s:ByteArray):List S24 × Bool × Bool:=lexd s (s.size + 1) 0 false []
theorem below_both {B pb T:Nat} {w w2:World} {cs:Array Value} (hb:Below B w w2) (h:w.heap[pb]? = some (.cells cs T (0,0))) (hlt:pb < B) (j:Nat) (v:Value):Below B (w.setCell ⟨pb,j,none⟩ v) (w2.setCell ⟨pb,j,none⟩ v):=by
 have s1:=(Below.refl 0 w).setCell (p:=⟨pb,j,none⟩) (Nat.zero_le _) v
 have s2:=(Below.refl 0 w2).setCell (p:=⟨pb,j,none⟩) (Nat.zero_le _) v
 refine ⟨?_,?_,?_,?_,fun k hk=>?_⟩
 ·rw [s2.os,s1.os,hb.os]
 ·rw [s2.tape,s1.tape,hb.tape]
 ·rw [s2.output,s1.output,hb.output]
 ·have:=hb.size;simpa using this
 ·by_cases e:k = pb
  ·subst e
   exact (blk_set ((hb.block _ hk).trans h) j v).trans (blk_set h j v).symm
  ·exact (Below.heap_setCell w2 ⟨pb,j,none⟩ v k e).trans ((hb.block k hk).trans (Below.heap_setCell w ⟨pb,j,none⟩ v k e).symm)
set_option maxHeartbeats 400000 in
theorem newSource_any (g:Nat) (v:Value) (w:World) (h:w.heap[g]? = some (.cells #[v,.string ⟨#[]⟩] 76 (0,0))) :
  Calls Tryz.prog 41 #[.pointer (some ⟨g,0,none⟩)] w fun e w'=>e = .returned (.pointer (some ⟨g,0,none⟩)) ∧ w'.cell? ⟨g,0,none⟩ = some v ∧ Below g w w' ∧ w'.heap.size = w.heap.size:=by
 have H:=Aside0.mk h
 have c1:=(blk_cell h 1).trans rfl
 have f1:=blk_frozen h 1
 clear h
 go_enter Tryz.func41,Tryz.ntmps41
 go_wp2_with fail
 go_ret
 exact ⟨rfl,(blk_cell (blk_set H.out 1 _) 0).trans rfl,(Below.refl g w).setCell (p:=⟨g,1,none⟩) (Nat.le_refl _) _,by simp⟩
set_option maxHeartbeats 400000 in
theorem lexLex_any (g:Nat) (w:World) :
  Calls Tryz.prog 40 #[.pointer (some ⟨g,0,none⟩)] w fun e w'=>e = .returned (.func (.func 67) #[] #[.pointer (some ⟨w.heap.size + 1,0,none⟩),.pointer (some ⟨w.heap.size,0,none⟩)]) ∧
   w'.heap[w.heap.size]? = some (.cells #[.pointer (some ⟨g,0,none⟩)] 72 (0,0)) ∧ w'.heap[w.heap.size + 1]? = some (.cells #[.int .i64 0] 3 (0,0)) ∧ Below w.heap.size w w' ∧ w'.heap.size = w.heap.size + 2:=by
 go_enter Tryz.func40,Tryz.ntmps40
 go_wp2_with fail
 go_ret
 refine ⟨rfl,?_,?_,((Below.refl _ _).alloc (Nat.le_refl _) _).alloc (by simp) _,by simp⟩
 ·exact blk_alloc (blk_new _ _) _
 ·have:=blk_new (w.alloc (.cells #[.pointer (some ⟨g,0,none⟩)] 72)) (.cells #[.int .i64 0] 3)
  simpa using this
theorem blk_grown {w w1:World} {g T E:Nat} {cs:Array Value} {v:Value} (h:w.heap[g]? = some (.cells cs T (0,0))) (hg:w.grownBy w1 v.ownBlock) (ht:∀ k,v.ownBlock = some k → ∃ cells,w.heap[k]? = some (.cells cells E (0,0))) (hne:T ≠ E):w1.heap[g]? = some (.cells cs T (0,0)):=
 (hg.block g (blk_lt h) (fun e=>by
  obtain ⟨c,hc⟩:=ht g e.symm
  rw [h] at hc
  injection hc with hc
  injection hc with _ h2
  exact hne h2)).trans h
def Moved (pb:Nat) (N:Option S24) (w w':World):Prop:=
 match N with
 | none=>Below w.heap.size w w'
 | some t=>Below w.heap.size (w.setCell ⟨pb,0,none⟩ (.int .i64 t.f3)) w'
set_option maxHeartbeats 2000000 in
theorem lexer_any (s:ByteArray) (g b c sb pb K:Nat) (r p q:Int) (N:Option S24) (w:World) (hq:q = if r = 0 then p else r) (hS:Src w b c s)
  (hg:w.cell? ⟨g,0,none⟩ = some (.slice (some ⟨b,0,none⟩) s.size c)) (hsb:w.cell? ⟨sb,0,none⟩ = some (.pointer (some ⟨g,0,none⟩)))
  (hpb:w.heap[pb]? = some (.cells #[.int .i64 p] 3 (0,0))) (hs:s.size ≤ 2000) (h0:0 ≤ q) (h1:q ≤ s.size) (hK:(s.size:Int) < q + K) (hN:nxt s K q false = (N,false)) :
  Calls Tryz.prog 67 #[.int .i64 r,.pointer (some ⟨pb,0,none⟩),.pointer (some ⟨sb,0,none⟩)] w fun e w'=>Told e (ofS24 N) ∧ Moved pb N w w':=by
 have HS:=Aside0.mk hS
 have HN:=Aside0.mk hN
 have HPB:=Aside0.mk hpb
 have HG:=Aside0.mk hg
 have hpl:=blk_lt hpb
 have hsb1:∀ o,(w.alloc o).cell? ⟨sb,0,none⟩ = some (.pointer (some ⟨g,0,none⟩)):=fun o=>PFnReadString.old_cell (below_alloc (Below.refl _ _) o) hsb
 have hpb1:∀ o,(w.alloc o).cell? ⟨pb,0,none⟩ = some (.int .i64 p):=fun o=>(blk_cell (blk_alloc hpb o) 0).trans rfl
 clear hS hN hpb hg hsb
 obtain ⟨W1,hW1⟩:∃ W1,W1 = w.alloc (.cells #[.int .i64 0,.int .i64 0,.int .i64 0,.string ⟨#[]⟩] 58):=⟨_,rfl⟩
 have hB1:Below w.heap.size w W1:=by rw [hW1];exact below_alloc (Below.refl _ _) _
 have hE1:W1.heap[w.heap.size]? = some (.cells #[.int .i64 0,.int .i64 0,.int .i64 0,.string ⟨#[]⟩] 58 (0,0)):=by rw [hW1];exact heap_alloc_new _ _
 have hsb2:W1.cell? ⟨sb,0,none⟩ = some (.pointer (some ⟨g,0,none⟩)):=by rw [hW1];exact hsb1 _
 have hpb2:W1.cell? ⟨pb,0,none⟩ = some (.int .i64 p):=by rw [hW1];exact hpb1 _
 have hz1:W1.heap.size = w.heap.size + 1:=by rw [hW1];simp
 have hS1:=HS.out.below hB1
 have hg1:=PFnReadString.old_cell hB1 HG.out
 have HC:=Aside0.mk (readToken_any s g b c K q N W1 hS1 hg1 hs h0 h1 hK HN.out)
 have HB1:=Aside0.mk hB1
 have HE1:=Aside0.mk hE1
 have HZ1:=Aside0.mk hz1
 have HQ:=Aside0.mk hq
 have HW1:=Aside0.mk hW1
 have hc:(r = 0 ∧ q = p) ∨ (r ≠ 0 ∧ q = r):=by
  by_cases h:r = 0
  ·exact .inl ⟨h,by rw [hq,if_pos h]⟩
  ·exact .inr ⟨h,by rw [hq,if_neg h]⟩
 clear hB1 hE1 hz1 hS1 hg1 hq HQ hW1 hsb2 hpb2
 obtain ⟨T,hT⟩:∃ T,T = ofS24 N:=⟨_,rfl⟩
 rw [← hT]
 have HTT:=Aside0.mk hT
 clear hT
 rcases hc with ⟨rfl,rfl⟩ | ⟨hr,rfl⟩
 case' inr=>have hrb:(q == 0) = false:=by simpa using hr
 all_goals
  go_enter Tryz.func67,Tryz.ntmps67
  go_wp2_with fail
  rw [← HW1.out]
  clear hsb1 hpb1
  refine HC.out.mono ?_
  rw [← HTT.out]
  rintro e w2 ⟨he2,hb2⟩
  have e0:=(hb2.block w.heap.size (by have:=HZ1.out;omega)).trans HE1.out
  have hz2:w.heap.size < w2.heap.size:=by have:=hb2.size;have:=HZ1.out;omega
  have HB2:=Aside0.mk (HB1.out.trans (hb2.mono (by have:=HZ1.out;omega)))
  have hp2:=(HB2.out.block pb hpl).trans HPB.out
  clear hb2
  have E0:=Aside0.mk e0
  have P2:=Aside0.mk hp2
  have n0:pb < w2.heap.size:=by omega
  have n1:w2.heap.size ≠ pb:=by omega
  have n2:pb ≠ w2.heap.size:=by omega
  have n3:w.heap.size ≠ pb:=by omega
  have n4:pb ≠ w.heap.size:=by omega
  have n5:w.heap.size ≠ w2.heap.size:=by omega
  have n6:w2.heap.size ≠ w.heap.size:=by omega
  have fa:=fun j=>blk_frozen e0 j
  have da0:=(blk_cell e0 0).trans rfl
  have da1:=(blk_cell e0 1).trans rfl
  have da2:=(blk_cell e0 2).trans rfl
  have da3:=(blk_cell e0 3).trans rfl
  have dp:=(blk_cell hp2 0).trans rfl
  have fp:=blk_frozen hp2 0
  clear e0 hp2
  cases T with
  | none=>
   obtain ⟨x,rfl⟩:=he2
   go_wp2_with fail
   obtain ⟨q0,q1,q2,q3⟩:=res4a E0.out (.int .i64 0) (.int .i64 0) (.int .i64 0) (.string ⟨#[]⟩) (.cells #[.int .i64 0,.int .i64 0,.int .i64 0,.string ⟨#[]⟩] 58)
   refine bodyPost_ret (v:=.tuple #[tk 0 0 0 ⟨#[]⟩,.iface 182 (.pointer (some ⟨x,0,none⟩))]) (by simp [results,Tryz.results67,go_sem,q0,q1,q2,q3]) rfl ⟨?_,?_⟩
   ·exact ⟨x,rfl⟩
   cases N with
   | some t=>exact absurd HTT.out (by simp [ofS24])
   | none=>exact (set4_below HB2.out (Nat.le_refl _) _ _ _ _).alloc (by simp;omega) _
  | some t=>
   obtain ⟨t0,t1,t2,t3⟩:=t
   obtain rfl:e = .returned (.tuple #[tk t0 t1 t2 t3,.nilIface]):=he2
   go_wp2_with fail
   obtain ⟨q0,q1,q2,q3⟩:=res4a (blk_far (p:=⟨pb,0,none⟩) E0.out n3 (.int .i64 t2)) (.int .i64 t0) (.int .i64 t1) (.int .i64 t2) (.string t3) (.cells #[.int .i64 t0,.int .i64 t1,.int .i64 t2,.string t3] 58)
   refine bodyPost_ret (v:=.tuple #[tk t0 t1 t2 t3,.nilIface]) (by simp [results,Tryz.results67,go_sem,q0,q1,q2,q3]) rfl ⟨?_,?_⟩
   ·exact rfl
   cases N with
   | none=>exact absurd HTT.out (by simp [ofS24])
   | some t=>
    have ht:=HTT.out
    obtain ⟨k0,k1,k2,k3⟩:=t
    simp only [ofS24,Option.map_some,Option.some.injEq,Prod.mk.injEq] at ht
    obtain ⟨rfl,rfl,rfl,rfl⟩:=ht
    exact (set4_below (below_both HB2.out HPB.out hpl 0 _) (Nat.le_refl _) _ _ _ _).alloc (by simp;omega) _
def LocAt (W:World) (p:Nat):Prop:=∃ a b u,W.heap[p]? = some (.cells #[.int .i64 a,.int .i64 b,u] 207 (0,0))
set_option maxHeartbeats 400000 in
theorem newLoc_any (q:Nat) (a b:Int) (u:Option Addr) (w:World) (h:w.heap[q]? = some (.cells #[.int .i64 a,.int .i64 b,.pointer u] 207 (0,0))) :
  Calls Tryz.prog 151 #[.pointer (some ⟨q,0,none⟩)] w fun e w'=>(∃ p,e = .returned (.pointer (some ⟨p,0,none⟩)) ∧ w.heap.size ≤ p ∧ LocAt w' p) ∧ Below w.heap.size w w':=by
 have c0:=(blk_cell h 0).trans rfl
 have c1:=(blk_cell h 1).trans rfl
 have c2:=(blk_cell h 2).trans rfl
 clear h
 go_enter Tryz.func151,Tryz.ntmps151
 go_wp2_with fail
 go_region
 all_goals
  go_wp2_with fail
  go_ret
  exact ⟨⟨_,rfl,by simp,⟨a,b,.pointer u,by first | exact blk_new _ _ | (have:=blk_new w.drew (.cells #[.int .i64 a,.int .i64 b,.pointer u] 207);simpa using this)⟩⟩,by first | exact below_alloc (below_drew (Below.refl _ _)) _ | exact below_drew (below_alloc (Below.refl _ _) _)⟩
set_option maxHeartbeats 400000 in
theorem newName_any (q:Nat) (z:ByteArray) (u1 u2:Value) (w:World) (h:w.heap[q]? = some (.cells #[.string z,u1,u2] 222 (0,0))) :
  Calls Tryz.prog 178 #[.pointer (some ⟨q,0,none⟩)] w fun e w'=>e = .returned (.pointer (some ⟨q,0,none⟩)) ∧ w' = w.setCell ⟨q,0,none⟩ (.string ⟨#[78,97,109,101]⟩):=by
 have c0:=(blk_cell h 0).trans rfl
 have f0:=blk_frozen h 0
 clear h
 go_enter Tryz.func178,Tryz.ntmps178
 go_wp2_with fail
 go_ret
 exact ⟨rfl,rfl⟩
theorem lexd_prefix (s:ByteArray):∀ (k:Nat) (p:Int) (u:Bool) (l:List S24),∃ r,(lexd s k p u l).1 = l ++ r
 | 0,p,u,l=>⟨[],by simp [lexd]⟩
 | k + 1,p,u,l=>by
  rw [lexd]
  split
  ·exact ⟨[],by simp⟩
  ·split
   ·exact lexd_prefix s k _ _ l
   ·exact ⟨[],by simp⟩
   ·rename_i a b c u' he
    obtain ⟨r,hr⟩:=lexd_prefix s k c u' (l ++ [⟨a,b,p,c⟩])
    exact ⟨[⟨a,b,p,c⟩] ++ r,by rw [hr,List.append_assoc]⟩
def At (s:ByteArray) (l:List S24) (bad:Bool) (i:Nat) (t:S24):Prop:=
 (l[i]? = some t ∧ t.f0 ≠ 1 ∧ 0 ≤ t.f3 ∧ t.f3 ≤ s.size ∧ ∃ k:Nat,(s.size:Int) < t.f3 + k ∧ lexd s k t.f3 false (l.take (i + 1)) = (l,bad,false)) ∨ (i = l.length ∧ bad = false ∧ t = ⟨1,⟨#[]⟩,s.size,s.size⟩)
theorem At.kd {s:ByteArray} {l:List S24} {bad:Bool} {i:Nat} {t:S24} (h:At s l bad i t):kd l i = t.f0:=by
 rcases h with ⟨h,-⟩ | ⟨rfl,-,rfl⟩
 ·obtain ⟨hl,rfl⟩:=List.getElem?_eq_some_iff.1 h
  unfold Lex.kd rd_T24
  rw [if_pos (by omega)]
  simp [hl]
 ·unfold Lex.kd
  rw [if_neg (by omega)]
theorem At.rd {s:ByteArray} {l:List S24} {bad:Bool} {i:Nat} {t:S24} (h:At s l bad i t) (hi:i < l.length):rd_T24 l i = t:=by
 rcases h with ⟨h,-⟩ | ⟨rfl,-,rfl⟩
 ·obtain ⟨hl,rfl⟩:=List.getElem?_eq_some_iff.1 h
  unfold rd_T24
  simp [hl]
 ·omega
theorem At.le {s:ByteArray} {l:List S24} {bad:Bool} {i:Nat} {t:S24} (h:At s l bad i t):i ≤ l.length:=by
 rcases h with ⟨h,-⟩ | ⟨rfl,-,rfl⟩
 ·have:=(List.getElem?_eq_some_iff.1 h).1;omega
 ·exact Nat.le_refl _
theorem At.lt {s:ByteArray} {l:List S24} {bad:Bool} {i:Nat} {t:S24} (h:At s l bad i t) (hk:t.f0 ≠ 1):i < l.length:=by
 rcases h with ⟨h,-⟩ | ⟨rfl,-,rfl⟩
 ·exact (List.getElem?_eq_some_iff.1 h).1
 ·exact absurd rfl hk
theorem at_goes {s:ByteArray} (hpt:∀ p:Int,0 ≤ p → p < s.size → ((ptS s p).2 = 0 ∨ 1 ≤ (ptS s p).2 ∧ (ptS s p).2 ≤ 4 ∧ p + (ptS s p).2 ≤ s.size)) {l:List S24} {bad:Bool} {i:Nat} {p:Int} {k:Nat}
  (h0:0 ≤ p) (hp:p ≤ s.size) (hk:(s.size:Int) < p + k) (hi:i ≤ l.length) (h:lexd s k p false (l.take i) = (l,bad,false)) :
  ∃ N,nxt s k p false = (N,false) ∧ ((N = none ∧ bad = true ∧ i = l.length) ∨ ∃ t,N = some t ∧ At s l bad i t):=by
 obtain ⟨N,hN,hG⟩:=lexd_goes s hpt (l,bad,false) rfl k p (l.take i) h0 hp hk h
 refine ⟨N,hN,?_⟩
 cases hG with
 | bad h=>
  obtain ⟨h1,h2⟩:=Prod.mk.inj h
  refine .inl ⟨rfl,(Prod.mk.inj h2).1,?_⟩
  have:=congrArg List.length h1
  rw [List.length_take] at this
  omega
 | fin h=>
  obtain ⟨h1,h2⟩:=Prod.mk.inj h
  refine .inr ⟨_,rfl,.inr ⟨?_,(Prod.mk.inj h2).1,rfl⟩⟩
  have:=congrArg List.length h1
  rw [List.length_take] at this
  omega
 | tok t k' hk' h1 h2 h3 hL=>
  refine .inr ⟨t,rfl,.inl ?_⟩
  obtain ⟨r,hr⟩:=lexd_prefix s k' t.f3 false (l.take i ++ [t])
  rw [hL] at hr
  have hr:l = l.take i ++ [t] ++ r:=hr
  have hlen:(l.take i).length = i:=by rw [List.length_take];omega
  have hget:l[i]? = some t:=by
   rw [hr,List.append_assoc,List.getElem?_append_right (by omega),hlen,Nat.sub_self]
   rfl
  have htake:l.take (i + 1) = l.take i ++ [t]:=by
   obtain ⟨hil,e⟩:=List.getElem?_eq_some_iff.1 hget
   rw [List.take_succ_eq_append_getElem hil,e]
  exact ⟨hget,hk',by omega,h2,k',h3,by rw [htake];exact hL⟩
theorem at_first {s:ByteArray} (hpt:∀ p:Int,0 ≤ p → p < s.size → ((ptS s p).2 = 0 ∨ 1 ≤ (ptS s p).2 ∧ (ptS s p).2 ≤ 4 ∧ p + (ptS s p).2 ≤ s.size)) {l:List S24} {bad:Bool} (h:lexR s = (l,bad,false)) :
  ∃ N,nxt s (s.size + 1) 0 false = (N,false) ∧ ((N = none ∧ bad = true ∧ l.length = 0) ∨ ∃ t,N = some t ∧ At s l bad 0 t):=by
 obtain ⟨N,hN,hh⟩:=at_goes (i:=0) (l:=l) (bad:=bad) hpt (Int.le_refl 0) (by omega) (k:=s.size + 1) (by omega) (Nat.zero_le _) h
 refine ⟨N,hN,?_⟩
 rcases hh with ⟨a,b,c⟩ | h
 ·exact .inl ⟨a,b,c.symm⟩
 ·exact .inr h
theorem at_next {s:ByteArray} (hpt:∀ p:Int,0 ≤ p → p < s.size → ((ptS s p).2 = 0 ∨ 1 ≤ (ptS s p).2 ∧ (ptS s p).2 ≤ 4 ∧ p + (ptS s p).2 ≤ s.size)) {l:List S24} {bad:Bool} {i:Nat} {t:S24} (h:At s l bad i t) (hk:t.f0 ≠ 1) :
  0 ≤ t.f3 ∧ t.f3 ≤ s.size ∧ ∃ (K:Nat) (N:Option S24),(s.size:Int) < t.f3 + K ∧ nxt s K t.f3 false = (N,false) ∧ ((N = none ∧ bad = true ∧ i + 1 = l.length) ∨ ∃ t',N = some t' ∧ At s l bad (i + 1) t'):=by
 have hi:=h.lt hk
 rcases h with ⟨h,-,h0,h1,k,h2,h3⟩ | ⟨rfl,-,rfl⟩
 ·obtain ⟨N,hN,hh⟩:=at_goes (i:=i + 1) hpt h0 h1 h2 (by omega) h3
  exact ⟨h0,h1,k,N,h2,hN,hh⟩
 ·exact absurd rfl hk
structure PE where
 P:Nat
 pb:Nat
 sb:Nat
 g:Nat
 b:Nat
 c:Nat
 s:ByteArray
abbrev PE.cs (E:PE) (t:S24) (pe:Int):Array Value:=#[.func (.func 67) #[] #[.pointer (some ⟨E.pb,0,none⟩),.pointer (some ⟨E.sb,0,none⟩)],.pointer (some ⟨E.g,0,none⟩),.bool false,.bool false,.int .i64 pe,.int .i64 t.f0,.int .i64 t.f2,.int .i64 t.f3,.string t.f1]
structure Pk (E:PE) (W1 W:World) (t:S24) (pe:Int):Prop where
 parser:W.heap[E.P]? = some (.cells (E.cs t pe) 125 (0,0))
 place:W.heap[E.pb]? = some (.cells #[.int .i64 t.f3] 3 (0,0))
 source:W.heap[E.sb]? = some (.cells #[.pointer (some ⟨E.g,0,none⟩)] 72 (0,0))
 below:Below W1.heap.size W1 W
 bP:W1.heap.size ≤ E.P
 bpb:W1.heap.size ≤ E.pb
 bsb:W1.heap.size ≤ E.sb
 src:Src W1 E.b E.c E.s
 body:W1.cell? ⟨E.g,0,none⟩ = some (.slice (some ⟨E.b,0,none⟩) E.s.size E.c)
 short:E.s.size ≤ 2000
structure Adv (E:PE) (w w':World):Prop where
 os:w'.os = w.os
 tape:w'.tape = w.tape
 output:w'.output = w.output
 size:w.heap.size ≤ w'.heap.size
 block:∀ k,k < w.heap.size → k ≠ E.P → k ≠ E.pb → w'.heap[k]? = w.heap[k]?
 start:∀ a,w.cell? ⟨E.P,6,none⟩ = some (.int .i64 a) → ∃ b,w'.cell? ⟨E.P,6,none⟩ = some (.int .i64 b)
theorem Adv.trans {E:PE} {w w1 w2:World} (h:Adv E w w1) (k:Adv E w1 w2):Adv E w w2:=
 ⟨k.os.trans h.os,k.tape.trans h.tape,k.output.trans h.output,Nat.le_trans h.size k.size,fun i hi h1 h2=>(k.block i (Nat.lt_of_lt_of_le hi h.size) h1 h2).trans (h.block i hi h1 h2),fun a ha=>by
  obtain ⟨b,hb⟩:=h.start a ha
  exact k.start b hb⟩
theorem Adv.of_below {E:PE} {w w1:World} (h:Below w.heap.size w w1):Adv E w w1:=⟨h.os,h.tape,h.output,h.size,fun i hi _ _=>h.block i hi,fun a ha=>⟨a,pw_cell_below h ha⟩⟩
theorem cell_set_same {w:World} {g j:Nat} {v u:Value} (h:w.cell? ⟨g,j,none⟩ = some v):(w.setCell ⟨g,j,none⟩ u).cell? ⟨g,j,none⟩ = some u:=
 World.cell?_setCell_same _ _ _ h
theorem cell_set_far {w:World} {g i j:Nat} {v u:Value} (h:w.cell? ⟨g,i,none⟩ = some v) (hij:j ≠ i):(w.setCell ⟨g,j,none⟩ u).cell? ⟨g,i,none⟩ = some v:=
 (World.cell?_setCell_other _ _ _ _ (fun e=>hij (by injection e))).trans h
theorem Adv.set {E:PE} {w w1:World} (h:Adv E w w1) {g:Nat} (hg:w.heap.size ≤ g) (j:Nat) (u:Value):Adv E w (w1.setCell ⟨g,j,none⟩ u):=by
 have s:=(Below.refl 0 w1).setCell (p:=⟨g,j,none⟩) (Nat.zero_le _) u
 exact ⟨s.os.trans h.os,s.tape.trans h.tape,s.output.trans h.output,by simpa using h.size,fun k hk h1 h2=>(Below.heap_setCell w1 ⟨g,j,none⟩ u k (by show k ≠ g;omega)).trans (h.block k hk h1 h2),fun a ha=>by
  obtain ⟨b,hb⟩:=h.start a ha
  have hP:E.P < w.heap.size:=World.block_lt_of_cell? w _ ha
  exact ⟨b,(World.cell?_of_block (a:=⟨E.P,6,none⟩) (Below.heap_setCell w1 ⟨g,j,none⟩ u E.P (by show E.P ≠ g;omega))).trans hb⟩⟩
theorem Adv.own {E:PE} {w w1:World} (h:Adv E w w1) (j:Nat) (u:Value) (hj:j ≠ 6 ∨ ∃ b,u = .int .i64 b):Adv E w (w1.setCell ⟨E.P,j,none⟩ u):=by
 have s:=(Below.refl 0 w1).setCell (p:=⟨E.P,j,none⟩) (Nat.zero_le _) u
 exact ⟨s.os.trans h.os,s.tape.trans h.tape,s.output.trans h.output,by simpa using h.size,fun k hk h1 h2=>(Below.heap_setCell w1 ⟨E.P,j,none⟩ u k h1).trans (h.block k hk h1 h2),fun a ha=>by
  obtain ⟨b,hb⟩:=h.start a ha
  by_cases e:j = 6
  ·subst e
   rcases hj with hj | ⟨c,rfl⟩
   ·exact absurd rfl hj
   ·exact ⟨c,cell_set_same hb⟩
  ·exact ⟨b,cell_set_far hb e⟩⟩
theorem Adv.below {E:PE} {w w1:World} {B:Nat} (h:Adv E w w1) (hB:B ≤ w.heap.size) (h1:B ≤ E.P) (h2:B ≤ E.pb):Below B w w1:=
 ⟨h.os,h.tape,h.output,h.size,fun i hi=>h.block i (by omega) (by omega) (by omega)⟩
theorem Adv.typed {E:PE} {W1 w w1:World} {t:S24} {pe:Int} {k T:Nat} {cs:Array Value} (h:Adv E w w1) (hp:Pk E W1 w t pe) (hk:w.heap[k]? = some (.cells cs T (0,0))) (h1:T ≠ 125) (h2:T ≠ 3):w1.heap[k]? = some (.cells cs T (0,0)):=by
 refine (h.block k (blk_lt hk) (fun e=>?_) (fun e=>?_)).trans hk
 ·subst e
  have:=hp.parser
  rw [hk] at this
  injection this with this
  injection this with _ a
  exact h1 a
 ·subst e
  have:=hp.place
  rw [hk] at this
  injection this with this
  injection this with _ a
  exact h2 a
theorem Pk.ne1 {E:PE} {W1 W:World} {t:S24} {pe:Int} (h:Pk E W1 W t pe):E.P ≠ E.pb:=by
 intro e
 have a:=h.parser
 have b:=h.place
 rw [e,b] at a
 injection a with a
 injection a with _ a
 exact absurd a (by decide)
theorem Pk.ne2 {E:PE} {W1 W:World} {t:S24} {pe:Int} (h:Pk E W1 W t pe):E.sb ≠ E.pb:=by
 intro e
 have a:=h.source
 have b:=h.place
 rw [e,b] at a
 injection a with a
 injection a with _ a
 exact absurd a (by decide)
theorem Pk.ne3 {E:PE} {W1 W:World} {t:S24} {pe:Int} (h:Pk E W1 W t pe):E.sb ≠ E.P:=by
 intro e
 have a:=h.source
 have b:=h.parser
 rw [e,b] at a
 injection a with a
 injection a with _ a
 exact absurd a (by decide)
theorem Pk.keep {E:PE} {W1 W W2:World} {t:S24} {pe:Int} (h:Pk E W1 W t pe) (hb:Below W.heap.size W W2):Pk E W1 W2 t pe:=
 { h with parser:=blk_below h.parser hb,place:=blk_below h.place hb,source:=blk_below h.source hb,below:=h.below.trans (hb.mono h.below.size) }
theorem Pk.lex {E:PE} {W1 W:World} {t:S24} {pe:Int} (h:Pk E W1 W t pe) {N:Option S24} {K:Nat} (h0:0 ≤ t.f3) (h1:t.f3 ≤ E.s.size) (hK:(E.s.size:Int) < t.f3 + K) (hN:nxt E.s K t.f3 false = (N,false)) :
  Calls Tryz.prog 67 #[.int .i64 t.f3,.pointer (some ⟨E.pb,0,none⟩),.pointer (some ⟨E.sb,0,none⟩)] W fun e w'=>Told e (ofS24 N) ∧ Moved E.pb N W w':=
 lexer_any E.s E.g E.b E.c E.sb E.pb K t.f3 t.f3 t.f3 N W (by split <;> rfl) (h.src.below h.below) (PFnReadString.old_cell h.below h.body) ((blk_cell h.source 0).trans rfl) h.place h.short h0 h1 hK hN
def Advd (E:PE) (W1:World) (pe:Int) (N:Option S24) (e:Ending) (w':World):Prop:=
 match N with
 | none=>∃ q,e = .returned (.iface 182 (.pointer (some ⟨q,0,none⟩)))
 | some t'=>e = .returned .nilIface ∧ Pk E W1 w' t' pe
theorem Pk.moved {E:PE} {W1 W w2:World} {t r:S24} {pe:Int} (h:Pk E W1 W t pe) (hm:Moved E.pb (some r) W w2) :
  w2.heap[E.pb]? = some (.cells #[.int .i64 r.f3] 3 (0,0)) ∧ Adv E W w2 ∧ ∀ k T cs,W.heap[k]? = some (.cells cs T (0,0)) → k ≠ E.pb → w2.heap[k]? = some (.cells cs T (0,0)):=by
 have hm:Below W.heap.size (W.setCell ⟨E.pb,0,none⟩ (.int .i64 r.f3)) w2:=hm
 have hs:Below 0 W (W.setCell ⟨E.pb,0,none⟩ (.int .i64 r.f3)):=(Below.refl 0 W).setCell (Nat.zero_le _) _
 have hk:∀ k,k < W.heap.size → k ≠ E.pb → w2.heap[k]? = W.heap[k]?:=fun k h1 h2=>(hm.block k h1).trans (Below.heap_setCell W ⟨E.pb,0,none⟩ _ k h2)
 refine ⟨(hm.block _ (blk_lt h.place)).trans (blk_set h.place 0 _),⟨hm.os.trans hs.os,hm.tape.trans hs.tape,hm.output.trans hs.output,by have:=hm.size;simpa using this,fun k h1 _ h2=>hk k h1 h2,fun a ha=>⟨t.f2,(blk_cell ((hk E.P (blk_lt h.parser) h.ne1).trans h.parser) 6).trans rfl⟩⟩,fun k T cs h1 h2=>(hk k (blk_lt h1) h2).trans h1⟩
theorem set4_far {W:World} {g k T:Nat} {cs:Array Value} (h:W.heap[k]? = some (.cells cs T (0,0))) (hne:k ≠ g) (x0 x1 x2 x3:Value):((((W.setCell ⟨g,0,none⟩ x0).setCell ⟨g,1,none⟩ x1).setCell ⟨g,2,none⟩ x2).setCell ⟨g,3,none⟩ x3).heap[k]? = some (.cells cs T (0,0)):=
 blk_far (p:=⟨g,3,none⟩) (blk_far (p:=⟨g,2,none⟩) (blk_far (p:=⟨g,1,none⟩) (blk_far (p:=⟨g,0,none⟩) h hne _) hne _) hne _) hne _
theorem set4_at {W:World} {g T:Nat} {a0 a1 a2 a3:Value} (h:W.heap[g]? = some (.cells #[a0,a1,a2,a3] T (0,0))) (x0 x1 x2 x3:Value):((((W.setCell ⟨g,0,none⟩ x0).setCell ⟨g,1,none⟩ x1).setCell ⟨g,2,none⟩ x2).setCell ⟨g,3,none⟩ x3).heap[g]? = some (.cells #[x0,x1,x2,x3] T (0,0)):=
 (blk_set (blk_set (blk_set (blk_set h 0 x0) 1 x1) 2 x2) 3 x3).trans rfl
def CutAdv (E:PE) (W1 Wa:World) (t:S24) (N:Option S24) (v3 v4:Value) (wc:World):Prop:=
 Adv E Wa wc ∧ match N with
 | none=>∃ q,v4 = .iface 182 (.pointer (some ⟨q,0,none⟩))
 | some r=>v4 = .nilIface ∧ ∃ k,v3 = .pointer (some ⟨k,0,none⟩) ∧ wc.heap[k]? = some (.cells #[.int .i64 r.f0,.int .i64 r.f2,.int .i64 r.f3,.string r.f1] 58 (0,0)) ∧ Wa.heap.size ≤ k ∧
   wc.heap[E.P]? = some (.cells (E.cs t t.f3) 125 (0,0)) ∧ wc.heap[E.pb]? = some (.cells #[.int .i64 r.f3] 3 (0,0)) ∧ wc.heap[E.sb]? = some (.cells #[.pointer (some ⟨E.g,0,none⟩)] 72 (0,0)) ∧ Below W1.heap.size W1 wc
set_option maxHeartbeats 2000000 in
theorem advance_any (E:PE) (W1 w:World) (t:S24) (pe:Int) (N:Option S24) (K:Nat) (h:Pk E W1 w t pe) (h0:0 ≤ t.f3) (h1:t.f3 ≤ E.s.size) (hK:(E.s.size:Int) < t.f3 + K) (hN:nxt E.s K t.f3 false = (N,false)) :
  Calls Tryz.prog 116 #[.pointer (some ⟨E.P,0,none⟩)] w fun e w'=>Advd E W1 t.f3 N e w' ∧ Adv E w w':=by
 have H:=Aside0.mk h
 obtain ⟨Wa,hWa⟩:∃ Wa,Wa = w.setCell ⟨E.P,4,none⟩ (.int .i64 t.f3):=⟨_,rfl⟩
 have hA:Pk E W1 Wa t t.f3:=by
  rw [hWa]
  exact { h with parser:=(blk_set h.parser 4 _).trans rfl,place:=blk_far h.place (p:=⟨E.P,4,none⟩) h.ne1.symm _,source:=blk_far h.source (p:=⟨E.P,4,none⟩) h.ne3 _,below:=h.below.setCell h.bP _ }
 have hWA:Adv E w Wa:=by
  have s:=(Below.refl 0 w).setCell (p:=⟨E.P,4,none⟩) (Nat.zero_le _) (.int .i64 t.f3)
  rw [hWa]
  exact ⟨s.os,s.tape,s.output,by simp,fun k _ h1 _=>Below.heap_setCell w ⟨E.P,4,none⟩ _ k h1,fun a ha=>⟨t.f2,(blk_cell (blk_set h.parser 4 _) 6).trans rfl⟩⟩
 have HWa:=Aside0.mk hWA
 have HL:=Aside0.mk (fun W (hb:Below Wa.heap.size Wa W)=>(hA.keep hb).lex h0 h1 hK hN)
 have HA:=Aside0.mk hA
 have HWA:=Aside0.mk hWa
 have c4:=(blk_cell h.parser 4).trans rfl
 have c7:=(blk_cell h.parser 7).trans rfl
 have fz:=fun j=>blk_frozen h.parser j
 have n1:=h.ne1
 have n3:=h.ne3
 have n2:=h.ne2
 clear h hA hWa hN hWA
 have HMV:=Aside0.mk (fun W (hb:Below Wa.heap.size Wa W) w2 r (hm:Moved E.pb (some r) W w2)=>(HA.out.keep hb).moved hm)
 have npb:Wa.heap.size ≠ E.pb:=by have:=blk_lt HA.out.place;omega
 have npb2:E.pb ≠ Wa.heap.size:=npb.symm
 have nP:E.P ≠ E.pb:=n1
 have hPl:=blk_lt HA.out.parser
 go_enter Tryz.func116,Tryz.ntmps116
 go_upto_region 2 with fail
 rw [← HWA.out]
 go_cut [3,4] (fun v3 v4 wc=>Aside0 (CutAdv E W1 Wa t N v3 v4 wc))
 case first=>
  have d0:=(blk_cell HA.out.parser 0).trans rfl
  have d4:=(blk_cell HA.out.parser 4).trans rfl
  have fd:=fun j=>blk_frozen HA.out.parser j
  obtain ⟨t0,t1,t2,t3⟩:=t
  clear c4 c7 fz
  cases N with
  | none=>
   go_region_with (go_at_call 67;refine (HL.out _ ?_).mono ?_;(first | exact below_drew (Below.refl _ _) | exact below_drew (below_alloc (Below.refl _ _) _));rintro e w2 ⟨he2,hm2⟩;obtain ⟨x,rfl⟩:=he2;(first | (have e0:w2.heap[Wa.heap.size]? = some (.cells #[.int .i64 0,.int .i64 0,.int .i64 0,.string ⟨#[]⟩] 58 (0,0)):=(Below.block hm2 _ (by simp)).trans (blk_new Wa _);have q0:=(blk_cell e0 0).trans rfl;have q1:=(blk_cell e0 1).trans rfl;have q2:=(blk_cell e0 2).trans rfl;have q3:=(blk_cell e0 3).trans rfl;have fe:=fun j=>blk_frozen e0 j;have E0:=Aside0.mk e0;clear e0) | skip);have HM2:=Aside0.mk hm2;clear hm2)
   all_goals
    go_wp2_with fail
    go_meet
    case rel=>
     first
     | (
       have hm:Below Wa.drew.heap.size Wa.drew w2:=HM2.out
       have hb:Below Wa.heap.size Wa w2:=Below.trans (below_drew (Below.refl Wa.heap.size Wa)) hm
       exact ⟨⟨Adv.of_below (below_alloc hb _),x,rfl⟩⟩)
     | (
       have hm:Below (Wa.alloc (.cells #[.int .i64 0,.int .i64 0,.int .i64 0,.string ⟨#[]⟩] 58)).drew.heap.size (Wa.alloc (.cells #[.int .i64 0,.int .i64 0,.int .i64 0,.string ⟨#[]⟩] 58)).drew w2:=HM2.out
       have hb:Below Wa.heap.size Wa w2:=(below_drew (below_alloc (Below.refl Wa.heap.size Wa) _)).trans (hm.mono (by simp))
       exact ⟨⟨Adv.of_below (set4_below hb (Nat.le_refl _) _ _ _ _),x,rfl⟩⟩)
  | some t'=>
   obtain ⟨r0,r1,r2,r3⟩:=t'
   go_region_with (go_at_call 67;refine (HL.out _ ?_).mono ?_;(first | exact below_drew (Below.refl _ _) | exact below_drew (below_alloc (Below.refl _ _) _));rintro e w2 ⟨he2,hm2⟩;obtain rfl:e = .returned (.tuple #[tk r0 r2 r3 r1,.nilIface]):=he2;(first | (have e0:w2.heap[Wa.heap.size]? = some (.cells #[.int .i64 0,.int .i64 0,.int .i64 0,.string ⟨#[]⟩] 58 (0,0)):=(HMV.out _ (by first | exact below_drew (Below.refl _ _) | exact below_drew (below_alloc (Below.refl _ _) _)) _ _ hm2).2.2 Wa.heap.size 58 _ (blk_new Wa _) npb;have q0:=(blk_cell e0 0).trans rfl;have q1:=(blk_cell e0 1).trans rfl;have q2:=(blk_cell e0 2).trans rfl;have q3:=(blk_cell e0 3).trans rfl;have fe:=fun j=>blk_frozen e0 j;have E0:=Aside0.mk e0;clear e0) | skip);have HM2:=Aside0.mk hm2;clear hm2)
   all_goals
    go_wp2_with fail
    go_meet
    case rel=>
     first
     | (
       obtain ⟨m1,m2,m3⟩:=HMV.out _ (below_drew (Below.refl _ _)) _ _ HM2.out
       have ad:Adv E Wa (w2.alloc (.cells #[.int .i64 r0,.int .i64 r2,.int .i64 r3,.string r1] 58)):=(Adv.of_below (below_drew (Below.refl _ _))).trans (m2.trans (Adv.of_below (below_alloc (Below.refl _ _) _)))
       exact ⟨⟨ad,rfl,_,rfl,blk_new _ _,m2.size,blk_alloc (m3 E.P 125 _ HA.out.parser n1) _,blk_alloc m1 _,blk_alloc (m3 E.sb 72 _ HA.out.source n2) _,HA.out.below.trans (ad.below HA.out.below.size HA.out.bP HA.out.bpb)⟩⟩)
     | (
       obtain ⟨m1,m2,m3⟩:=HMV.out _ (below_drew (below_alloc (Below.refl _ _) _)) _ _ HM2.out
       have ad:Adv E Wa ((((w2.setCell ⟨Wa.heap.size,0,none⟩ (.int .i64 r0)).setCell ⟨Wa.heap.size,1,none⟩ (.int .i64 r2)).setCell ⟨Wa.heap.size,2,none⟩ (.int .i64 r3)).setCell ⟨Wa.heap.size,3,none⟩ (.string r1)):=((((((Adv.of_below (below_drew (below_alloc (Below.refl _ _) _))).trans m2).set (Nat.le_refl _) _ _).set (Nat.le_refl _) _ _).set (Nat.le_refl _) _ _).set (Nat.le_refl _) _ _)
       have e0:=m3 Wa.heap.size 58 _ (blk_new Wa _) npb
       exact ⟨⟨ad,rfl,_,rfl,set4_at e0 _ _ _ _,Nat.le_refl _,set4_far (m3 E.P 125 _ (blk_alloc HA.out.parser _) n1) (by omega) _ _ _ _,set4_far m1 npb2 _ _ _ _,set4_far (m3 E.sb 72 _ (blk_alloc HA.out.source _) n2) (by have:=blk_lt HA.out.source;omega) _ _ _ _,HA.out.below.trans (ad.below HA.out.below.size HA.out.bP HA.out.bpb)⟩⟩)
 case rest=>
  have hc:=hcut.out
  clear hcut
  cases N with
  | none=>
   obtain ⟨ad,x,rfl⟩:=hc
   have AD:=Aside0.mk ad
   clear ad
   go_wp2_with fail
   go_ret
   exact ⟨⟨x,rfl⟩,HWa.out.trans AD.out⟩
  | some r=>
   obtain ⟨ad,rfl,k,rfl,hk,hle,p1,p2,p3,p4⟩:=hc
   obtain ⟨r0,r1,r2,r3⟩:=r
   have AD:=Aside0.mk ad
   have P1:=Aside0.mk p1
   have P2:=Aside0.mk p2
   have P3:=Aside0.mk p3
   have P4:=Aside0.mk p4
   have k0:=(blk_cell hk 0).trans rfl
   have k1:=(blk_cell hk 1).trans rfl
   have k2:=(blk_cell hk 2).trans rfl
   have k3:=(blk_cell hk 3).trans rfl
   have c5:=(blk_cell p1 5).trans rfl
   have c6:=(blk_cell p1 6).trans rfl
   have c7':=(blk_cell p1 7).trans rfl
   have c8:=(blk_cell p1 8).trans rfl
   have fc:=fun j=>blk_frozen p1 j
   clear ad p1 p2 p3 p4 c4 c7 fz hk
   go_wp2_with fail
   go_ret
   refine ⟨⟨rfl,?_⟩,HWa.out.trans ((((AD.out.own 5 (.int .i64 r0) (.inl (by decide))).own 6 (.int .i64 r2) (.inr ⟨_,rfl⟩)).own 7 (.int .i64 r3) (.inl (by decide))).own 8 (.string r1) (.inl (by decide)))⟩
   exact { HA.out with
    parser:=(blk_set (blk_set (blk_set (blk_set P1.out 5 (.int .i64 r0)) 6 (.int .i64 r2)) 7 (.int .i64 r3)) 8 (.string r1)).trans rfl
    place:=blk_far (p:=⟨E.P,8,none⟩) (blk_far (p:=⟨E.P,7,none⟩) (blk_far (p:=⟨E.P,6,none⟩) (blk_far (p:=⟨E.P,5,none⟩) P2.out n1.symm _) n1.symm _) n1.symm _) n1.symm _
    source:=blk_far (p:=⟨E.P,8,none⟩) (blk_far (p:=⟨E.P,7,none⟩) (blk_far (p:=⟨E.P,6,none⟩) (blk_far (p:=⟨E.P,5,none⟩) P3.out n3 _) n3 _) n3 _) n3 _
    below:=(((P4.out.setCell HA.out.bP _).setCell HA.out.bP _).setCell HA.out.bP _).setCell HA.out.bP _ }
def Skipd (E:PE) (W1:World) (pe:Int) (N:Option S24) (e:Ending) (w':World):Prop:=
 match N with
 | none=>∃ q,e = .returned (.tuple #[.bool true,.iface 182 (.pointer (some ⟨q,0,none⟩))])
 | some t'=>e = .returned (.tuple #[.bool true,.nilIface]) ∧ Pk E W1 w' t' pe
set_option maxHeartbeats 1000000 in
theorem skip_yes (E:PE) (W1 w:World) (t:S24) (pe:Int) (N:Option S24) (K:Nat) (h:Pk E W1 w t pe) (h0:0 ≤ t.f3) (h1:t.f3 ≤ E.s.size) (hK:(E.s.size:Int) < t.f3 + K) (hN:nxt E.s K t.f3 false = (N,false)) :
  Calls Tryz.prog 120 #[.pointer (some ⟨E.P,0,none⟩),.int .i64 t.f0] w fun e w'=>Skipd E W1 t.f3 N e w' ∧ Adv E w w':=by
 have HC:=Aside0.mk (advance_any E W1 w t pe N K h h0 h1 hK hN)
 have c5:=(blk_cell h.parser 5).trans rfl
 have k0:(t.f0 == t.f0) = true:=by simp
 clear h hN
 go_enter Tryz.func120,Tryz.ntmps120
 go_wp2_with fail
 refine HC.out.mono ?_
 rintro e w2 ⟨h2,ad⟩
 have AD:=Aside0.mk ad
 clear ad
 cases N with
 | none=>
  obtain ⟨q,rfl⟩:=h2
  go_wp2_with fail
  go_ret2
  exact ⟨⟨q,rfl⟩,AD.out⟩
 | some t'=>
  obtain ⟨rfl,hp⟩:=h2
  have HP:=Aside0.mk hp
  clear hp
  go_wp2_with fail
  go_ret2
  exact ⟨⟨rfl,HP.out⟩,AD.out⟩
set_option maxHeartbeats 400000 in
theorem skip_no (E:PE) (W1 w:World) (t:S24) (pe k:Int) (h:Pk E W1 w t pe) (hk:t.f0 ≠ k) :
  Calls Tryz.prog 120 #[.pointer (some ⟨E.P,0,none⟩),.int .i64 k] w fun e w'=>e = .returned (.tuple #[.bool false,.nilIface]) ∧ w = w':=by
 have c5:=(blk_cell h.parser 5).trans rfl
 have k0:(t.f0 == k) = false:=by simpa using hk
 clear h hk
 go_enter Tryz.func120,Tryz.ntmps120
 go_wp2_with fail
 go_ret2
 exact ⟨rfl,rfl⟩
theorem blk_new2 (w:World) (A B:Obj):((w.alloc A).alloc B).heap[w.heap.size + 1]? = some B:=by
 have:=blk_new (w.alloc A) B
 simpa using this
theorem Pk.set {E:PE} {W1 W:World} {t:S24} {pe:Int} (h:Pk E W1 W t pe) {g:Nat} (hg:W1.heap.size ≤ g) (h1:E.P ≠ g) (h2:E.pb ≠ g) (h3:E.sb ≠ g) (j:Nat) (u:Value):Pk E W1 (W.setCell ⟨g,j,none⟩ u) t pe:=
 { h with parser:=blk_far (p:=⟨g,j,none⟩) h.parser h1 _,place:=blk_far (p:=⟨g,j,none⟩) h.place h2 _,source:=blk_far (p:=⟨g,j,none⟩) h.source h3 _,below:=h.below.setCell hg _ }
theorem Pk.set4 {E:PE} {W1 W:World} {t:S24} {pe:Int} (h:Pk E W1 W t pe) {g:Nat} (hg:W1.heap.size ≤ g) (h1:E.P ≠ g) (h2:E.pb ≠ g) (h3:E.sb ≠ g) (x0 x1 x2 x3:Value):Pk E W1 ((((W.setCell ⟨g,0,none⟩ x0).setCell ⟨g,1,none⟩ x1).setCell ⟨g,2,none⟩ x2).setCell ⟨g,3,none⟩ x3) t pe:=
 (((h.set hg h1 h2 h3 0 x0).set hg h1 h2 h3 1 x1).set hg h1 h2 h3 2 x2).set hg h1 h2 h3 3 x3
theorem Adv.set4 {E:PE} {w w1:World} (h:Adv E w w1) {g:Nat} (hg:w.heap.size ≤ g) (x0 x1 x2 x3:Value):Adv E w ((((w1.setCell ⟨g,0,none⟩ x0).setCell ⟨g,1,none⟩ x1).setCell ⟨g,2,none⟩ x2).setCell ⟨g,3,none⟩ x3):=
 (((h.set hg 0 x0).set hg 1 x1).set hg 2 x2).set hg 3 x3
def Expd (E:PE) (W1:World) (t:S24) (N:Option S24) (e:Ending) (w':World):Prop:=
 match N with
 | none=>∃ q,e = .returned (.tuple #[tk t.f0 t.f2 t.f3 t.f1,.iface 182 (.pointer (some ⟨q,0,none⟩))])
 | some t'=>e = .returned (.tuple #[tk t.f0 t.f2 t.f3 t.f1,.nilIface]) ∧ Pk E W1 w' t' t.f3
set_option maxHeartbeats 4000000 in
theorem expect_yes (E:PE) (W1 w:World) (t:S24) (pe:Int) (N:Option S24) (K:Nat) (h:Pk E W1 w t pe) (h0:0 ≤ t.f3) (h1:t.f3 ≤ E.s.size) (hK:(E.s.size:Int) < t.f3 + K) (hN:nxt E.s K t.f3 false = (N,false)) :
  Calls Tryz.prog 157 #[.pointer (some ⟨E.P,0,none⟩),.int .i64 t.f0] w fun e w'=>Expd E W1 t N e w' ∧ Adv E w w':=by
 have HC:=Aside0.mk (fun W (hb:Below w.heap.size w W)=>advance_any E W1 W t pe N K (h.keep hb) h0 h1 hK hN)
 have H:=Aside0.mk h
 have c5:=(blk_cell h.parser 5).trans rfl
 have c6:=(blk_cell h.parser 6).trans rfl
 have c7:=(blk_cell h.parser 7).trans rfl
 have c8:=(blk_cell h.parser 8).trans rfl
 have hPl:=blk_lt h.parser
 have hpl:=blk_lt h.place
 have k0:(t.f0 == t.f0) = true:=by simp
 clear h hN
 obtain ⟨t0,t1,t2,t3⟩:=t
 go_enter Tryz.func157,Tryz.ntmps157
 go_wp2_with fail
 cases N with
 | none=>
  go_region_with (go_at_call 116;refine (HC.out _ ?_).mono ?_;(first | exact below_drew (below_alloc (below_alloc (Below.refl _ _) _) _));rintro e w2 ⟨h2,ad⟩;obtain ⟨q,rfl⟩:=h2;have e0:=(ad.block w.heap.size (by simp;omega) (by omega) (by omega)).trans (blk_alloc (blk_new w _) _);have e1:=(ad.block (w.heap.size + 1) (by simp) (by omega) (by omega)).trans (blk_new2 w _ _);have a0:=(blk_cell e0 0).trans rfl;have a1:=(blk_cell e0 1).trans rfl;have a2:=(blk_cell e0 2).trans rfl;have a3:=(blk_cell e0 3).trans rfl;have fa:=fun j=>blk_frozen e0 j;have b0:=(blk_cell e1 0).trans rfl;have b1:=(blk_cell e1 1).trans rfl;have b2:=(blk_cell e1 2).trans rfl;have b3:=(blk_cell e1 3).trans rfl;have E0:=Aside0.mk e0;have AD:=Aside0.mk ad;clear ad e0 e1)
  all_goals
   go_wp2_with fail
   obtain ⟨q0,q1,q2,q3⟩:=res4 E0.out (.int .i64 t0) (.int .i64 t2) (.int .i64 t3) (.string t1)
   refine bodyPost_ret (v:=.tuple #[tk t0 t2 t3 t1,.iface 182 (.pointer (some ⟨q,0,none⟩))]) (by simp [results,Tryz.results157,go_sem,q0,q1,q2,q3]) rfl ⟨?_,?_⟩
   ·exact ⟨q,rfl⟩
   ·exact ((Adv.of_below (below_drew (below_alloc (below_alloc (Below.refl w.heap.size w) _) _))).trans AD.out).set4 (Nat.le_refl _) _ _ _ _
 | some t'=>
  obtain ⟨r0,r1,r2,r3⟩:=t'
  go_region_with (go_at_call 116;refine (HC.out _ ?_).mono ?_;(first | exact below_drew (below_alloc (below_alloc (Below.refl _ _) _) _));rintro e w2 ⟨h2,ad⟩;obtain ⟨rfl,hp⟩:=h2;have HP:=Aside0.mk hp;clear hp;have e0:=(ad.block w.heap.size (by simp;omega) (by omega) (by omega)).trans (blk_alloc (blk_new w _) _);have e1:=(ad.block (w.heap.size + 1) (by simp) (by omega) (by omega)).trans (blk_new2 w _ _);have a0:=(blk_cell e0 0).trans rfl;have a1:=(blk_cell e0 1).trans rfl;have a2:=(blk_cell e0 2).trans rfl;have a3:=(blk_cell e0 3).trans rfl;have fa:=fun j=>blk_frozen e0 j;have b0:=(blk_cell e1 0).trans rfl;have b1:=(blk_cell e1 1).trans rfl;have b2:=(blk_cell e1 2).trans rfl;have b3:=(blk_cell e1 3).trans rfl;have E0:=Aside0.mk e0;have AD:=Aside0.mk ad;clear ad e0 e1)
  all_goals
   go_wp2_with fail
   obtain ⟨q0,q1,q2,q3⟩:=res4 E0.out (.int .i64 t0) (.int .i64 t2) (.int .i64 t3) (.string t1)
   refine bodyPost_ret (v:=.tuple #[tk t0 t2 t3 t1,.nilIface]) (by simp [results,Tryz.results157,go_sem,q0,q1,q2,q3]) rfl ⟨?_,?_⟩
   ·exact ⟨rfl,HP.out.set4 H.out.below.size (by omega) (by omega) (by have:=blk_lt H.out.source;omega) _ _ _ _⟩
   ·exact ((Adv.of_below (below_drew (below_alloc (below_alloc (Below.refl w.heap.size w) _) _))).trans AD.out).set4 (Nat.le_refl _) _ _ _ _
def NameAt (W:World) (r:Nat) (n:ByteArray):Prop:=∃ k u,W.heap[r]? = some (.cells #[.string k,u,.string n] 222 (0,0))
theorem LocAt.below {W W1:World} {p:Nat} (h:LocAt W p) (hb:Below W.heap.size W W1):LocAt W1 p:=by
 obtain ⟨a,b,u,h⟩:=h
 exact ⟨a,b,u,blk_below h hb⟩
theorem NameAt.below {W W1:World} {p:Nat} {n:ByteArray} (h:NameAt W p n) (hb:Below W.heap.size W W1):NameAt W1 p n:=by
 obtain ⟨a,b,h⟩:=h
 exact ⟨a,b,blk_below h hb⟩
def Refd (l:List S24) (bad:Bool) (x:PS):Prop:=x.bad = true ∨ (bad = true ∧ x.at_ = l.length)
theorem Lx.row {W:World} {base g:Nat} {x:LS} (h:Lx W base g x):∃ v,
  W.cell? ⟨g,2,none⟩ = some v ∧ Kd.R k24 24 W base (fun _=>True) v x.out:=by
 obtain ⟨v,h,-,hR⟩:=h
 exact ⟨v,by simp [World.cell?,h],hR⟩
set_option maxHeartbeats 1000000 in
theorem specLexed_any (s:ByteArray) (w:World) (hs:s.size ≤ 2000) :
  Calls Tryz.prog 39 #[.string s] w fun e w'=>(∃ v,e = .returned (.tuple #[v,.bool (!(lexR s).2.1),.bool (!(lexR s).2.2)]) ∧ Kd.R k24 24 w' w.heap.size (fun _=>True) v (lexR s).1) ∧ Below w.heap.size w w':=by
 have HPT:=Aside0.mk (fun p h1 h2=>pt_tells s (by omega) p h1 h2)
 obtain ⟨R,hR⟩:∃ R,R = lexR s:=⟨_,rfl⟩
 rw [← hR]
 have HR:=Aside0.mk hR
 clear hR
 go_enter Tryz.func39,Tryz.ntmps39
 go_wp2_with fail
 go_loopg [9] (s.size + 1 + 1) (fun kq v9 wr=>∃ (x:LS),Aside0 (x.s = s ∧ Run s R kq x ∧ Lx wr w.heap.size w.heap.size x ∧ Below w.heap.size w wr))
 case atStart=>
  exact ⟨⟨s,0,[],false,false⟩,⟨rfl,.run _ 0 false [] (by omega) (by omega) (by omega) (by simp) HR.out.symm,Lx.new _ _ _ _ (Nat.le_refl _),below_alloc (Below.refl _ _) _⟩⟩
 case round=>
  obtain ⟨x,HA⟩:=hrel
  have HL:=Aside0.mk HA.out.2.2.1
  have HB:=Aside0.mk HA.out.2.2.2
  have HSt:=Aside0.mk HA.out.2.1
  clear HA
  have hwr:w.heap.size ≤ wr.heap.size:=HB.out.size
  obtain ⟨v0,c0,c1,c2',c3,c4,fz⟩:=HL.out.cells
  clear c2'
  obtain ⟨v,c2,hrow⟩:=HL.out.row
  have HRow:=Aside0.mk hrow
  clear hrow
  rcases HSt.out with ⟨j,q,u,l,hq0,hq1,hq2,hl,hq3⟩ | ⟨k,q,u,l,hn⟩
  ·by_cases hlt:q < (s.size:Int)
   ·have hltb:decide (q < (s.size:Int)) = true:=decide_eq_true hlt
    have HST:=Aside0.mk (run_step (R:=R) (fun p h1 h2=>(HPT.out p h1 h2).2) hq0 hlt hq2 hl hq3)
    have HSZ:=Aside0.mk hl
    clear hl hq3 hq2
    go_wp2_with fail
    refine (token_any w.heap.size w.heap.size ⟨s,q,l,false,u⟩ wr HL.out hwr hq0 hlt hs (by have:=HSZ.out;simp;omega) HPT.out).mono ?_
    rintro e w2 ⟨rfl,hX2,hB2⟩
    have HX2:=Aside0.mk hX2
    have HB2:=Aside0.mk (HB.out.trans hB2)
    clear hX2 hB2
    go_wp2_with fail
    go_roundg j
    case measure=>omega
    case rel=>exact ⟨_,⟨by cases stp s q u <;> rfl,HST.out,HX2.out,HB2.out⟩⟩
   ·have hltb:decide (q < (s.size:Int)) = false:=decide_eq_false hlt
    have hfin:R = (l,false,u):=by
     rw [← hq3]
     cases j with
     | zero=>rfl
     | succ j=>rw [lexd,if_pos (by omega)]
    subst hfin
    clear hq3 hl hq2
    go_wp2_with fail
    go_region
    go_wp2_with fail
    go_ret3
    exact ⟨⟨_,rfl,Kd.R_below HRow.out (pw_below_drewN (Below.refl _ _) 1)⟩,pw_below_drewN HB.out 1⟩
  ·subst hn
   go_wp2_with fail
   go_region
   go_wp2_with fail
   go_ret3
   exact ⟨⟨_,rfl,Kd.R_below HRow.out (pw_below_drewN (Below.refl _ _) 1)⟩,pw_below_drewN HB.out 1⟩
theorem eqA50 (d:Nat) (w:World) (x0 y0:Int) (x1 y1 x2 y2 x3 y3:ByteArray) (x4 y4 x5 y5:Int) :
  (Op.equalIn (d + 2) 50 (.agg #[.int .i64 x0,.string x1,.string x2,.string x3,.int .i64 x4,.int .i64 x5]) (.agg #[.int .i64 y0,.string y1,.string y2,.string y3,.int .i64 y4,.int .i64 y5])).run Tryz.prog w = .ok (x0 == y0 && (x1.toList == y1.toList && (x2.toList == y2.toList && (x3.toList == y3.toList && (x4 == y4 && (x5 == y5)))))) w:=by
 refine eqA_of Tryz.underlying50 (by kernel_rfl) ?_
 refine eqf_cons (by rfl) (by go_simp;rfl) (by go_simp;rfl) (by go_simp) ?_
 refine eqf_cons (by rfl) (by go_simp;rfl) (by go_simp;rfl) (by go_simp) ?_
 refine eqf_cons (by rfl) (by go_simp;rfl) (by go_simp;rfl) (by go_simp) ?_
 refine eqf_cons (by rfl) (by go_simp;rfl) (by go_simp;rfl) (by go_simp) ?_
 refine eqf_cons (by rfl) (by go_simp;rfl) (by go_simp;rfl) (by go_simp) ?_
 exact eqf_last (by rfl) (by go_simp;rfl) (by go_simp;rfl) (by go_simp)
theorem neq50 (x0:Int) (x1 x2 x3:ByteArray) (x4 x5:Int) (w:World):(binOp .neq 50 (.agg #[.int .i64 x0,.string x1,.string x2,.string x3,.int .i64 x4,.int .i64 x5]) (.agg #[.int .i64 x0,.string x1,.string x2,.string x3,.int .i64 x4,.int .i64 x5])).run Tryz.prog w = .ok (.bool false) w:=by
 have:=eqA50 9998 w x0 x0 x1 x1 x2 x2 x3 x3 x4 x4 x5 x5
 rw [run_neq_struct]
 rw [show (10000:Nat) = 9998 + 2 from rfl,this]
 simp [Result.andThen]
end Go.Proofs.YtbobbognjmofdaaGreatDoor.Lex
end
