import Derived.Test.YtbobbognjmofdaaGreatDoorV15
import Derived.Test.YtbobbognjmofdaaGreatDoorV16
section
section
namespace Go.Proofs.YtbobbognjmofdaaGreatDoor.Lex
open Go.RowKit Go.Proofs.YtbobbognjmofdaaGreatDoorW.PrintWords Go.Proofs.YtbobbognjmofdaaGreatDoorW.PrintLast Go.Proofs.YtbobbognjmofdaaGreatDoorW.PrintMore
open Go.Proofs.YtbobbognjmofdaaGreatDoor.Ptext
set_option linter.unusedVariables false
set_option linter.unusedSimpArgs false
def ofS24 (R:Option S24):Option (Int × Int × Int × ByteArray):=R.map fun t=>(t.f0,t.f2,t.f3,t.f1)
theorem res4a {W:World} {g T:Nat} {a0 a1 a2 a3:Value} (h:W.heap[g]? = some (.cells #[a0,a1,a2,a3] T (0,0))) (x0 x1 x2 x3:Value) (o:Obj) :
  (((((W.setCell ⟨g,0,none⟩ x0).setCell ⟨g,1,none⟩ x1).setCell ⟨g,2,none⟩ x2).setCell ⟨g,3,none⟩ x3).alloc o).cell? ⟨g,0,none⟩ = some x0 ∧ (((((W.setCell ⟨g,0,none⟩ x0).setCell ⟨g,1,none⟩ x1).setCell ⟨g,2,none⟩ x2).setCell ⟨g,3,none⟩ x3).alloc o).cell? ⟨g,1,none⟩ = some x1 ∧
  (((((W.setCell ⟨g,0,none⟩ x0).setCell ⟨g,1,none⟩ x1).setCell ⟨g,2,none⟩ x2).setCell ⟨g,3,none⟩ x3).alloc o).cell? ⟨g,2,none⟩ = some x2 ∧ (((((W.setCell ⟨g,0,none⟩ x0).setCell ⟨g,1,none⟩ x1).setCell ⟨g,2,none⟩ x2).setCell ⟨g,3,none⟩ x3).alloc o).cell? ⟨g,3,none⟩ = some x3:=by
 obtain ⟨q0,q1,q2,q3⟩:=res4 h x0 x1 x2 x3
 exact ⟨PFnReadString.old_cell (below_alloc (Below.refl _ _) o) q0,PFnReadString.old_cell (below_alloc (Below.refl _ _) o) q1,PFnReadString.old_cell (below_alloc (Below.refl _ _) o) q2,PFnReadString.old_cell (below_alloc (Below.refl _ _) o) q3⟩
set_option maxRecDepth 4000 in
set_option maxHeartbeats 80000000 in
theorem readToken_any (s:ByteArray) (g b c K:Nat) (p:Int) (R:Option S24) (w:World) (h:Src w b c s) (hg:w.cell? ⟨g,0,none⟩ = some (.slice (some ⟨b,0,none⟩) s.size c)) (hs:s.size ≤ 2000) (h0:0 ≤ p) (hp:p ≤ s.size) (hK:(s.size:Int) < p + K) (hN:nxt s K p false = (R,false)) :
  Calls Tryz.prog 66 #[.pointer (some ⟨g,0,none⟩),.int .i64 p] w fun e w'=>Told e (ofS24 R) ∧ Below w.heap.size w w':=by
 have hg1:∀ o,(w.alloc o).cell? ⟨g,0,none⟩ = some (.slice (some ⟨b,0,none⟩) s.size c):=fun o=>PFnReadString.old_cell (below_alloc (Below.refl _ _) o) hg
 have HS:=Aside0.mk h
 have HN:=Aside0.mk hN
 obtain ⟨T,hT⟩:∃ T,T = ofS24 R:=⟨_,rfl⟩
 rw [← hT]
 have HT:=Aside0.mk hT
 clear h hg hN hT
 go_enter Tryz.func66,Tryz.ntmps66
 go_wp2_with fail
 obtain ⟨W1,hW1⟩:∃ W1,W1 = w.alloc (.cells #[.int .i64 0,.int .i64 0,.int .i64 0,.string ⟨#[]⟩] 58):=⟨_,rfl⟩
 have hB1:Below w.heap.size w W1:=by rw [hW1];exact below_alloc (Below.refl _ _) _
 have hE1:W1.heap[w.heap.size]? = some (.cells #[.int .i64 0,.int .i64 0,.int .i64 0,.string ⟨#[]⟩] 58 (0,0)):=by
  rw [hW1];exact heap_alloc_new _ _
 have hz1:W1.heap.size = w.heap.size + 1:=by rw [hW1];simp
 have hg1:W1.cell? ⟨g,0,none⟩ = some (.slice (some ⟨b,0,none⟩) s.size c):=by rw [hW1];exact hg1 _
 rw [← hW1]
 have HB1:=Aside0.mk hB1
 have HE1:=Aside0.mk hE1
 have HZ1:=Aside0.mk hz1
 have HG1:=Aside0.mk hg1
 have HS1:=Aside0.mk (HS.out.below hB1)
 clear hW1 hB1 hE1 hz1 hg1 HS
 refine (ws_any s b c K p R _ HS1.out hs h0 hp hK HN.out).mono ?_
 rintro e w2 ⟨⟨q,rfl,hq1,hq2,hq⟩,hb2⟩
 have HX2:Aside0 (Below W1.heap.size W1 w2):=⟨hb2⟩
 clear hb2
 rcases hq with ⟨hq3,hq4⟩ | ⟨hlt,hnb,hbom,h35,hsay⟩
 ·have hgb:decide (q ≥ (s.size:Int)) = true:=decide_eq_true (by omega)
  have hf:T = some (1,q,q,⟨#[]⟩):=by rw [HT.out,hq4,hq3];rfl
  have HF:=Aside0.mk hf
  clear hq3 hq4 hf
  go_wp2_with fail
  refine (PFnReadString.lexer_makeToken.calls (1) (q) (q) ⟨#[]⟩ (1) (q) (q) ⟨#[]⟩ _ rfl).mono ?_
  rintro e w9 ⟨rfl,hb9⟩
  have HX9:Aside0 (Below W1.heap.size W1 w9):=⟨below_then HX2.out HX2.out.size hb9⟩
  clear hb9
  have e0:w9.heap[w.heap.size]? = some (.cells #[.int .i64 0,.int .i64 0,.int .i64 0,.string ⟨#[]⟩] 58 (0,0)):=(HX9.out.block _ (by have:=HZ1.out;omega)).trans HE1.out
  have d0:=(blk_cell e0 0).trans rfl
  have d1:=(blk_cell e0 1).trans rfl
  have d2:=(blk_cell e0 2).trans rfl
  have d3:=(blk_cell e0 3).trans rfl
  have f0:=fun j=>blk_frozen e0 j
  have E0:=Aside0.mk e0
  clear e0
  go_wp2_with fail
  obtain ⟨q0,q1,q2,q3⟩:=res4 E0.out (.int .i64 (1)) (.int .i64 (q)) (.int .i64 (q)) (.string ⟨#[]⟩)
  refine bodyPost_ret (v:=.tuple #[tk (1) (q) (q) ⟨#[]⟩,.nilIface]) (by simp [results,Tryz.results66,go_sem,q0,q1,q2,q3]) rfl ⟨?_,?_⟩
  ·rw [HF.out]
   exact rfl
  ·exact set4_below (HB1.out.trans (HX9.out.mono (by have:=HZ1.out;omega))) (Nat.le_refl _) _ _ _ _
 have hgb:decide (q ≥ (s.size:Int)) = false:=decide_eq_false (by omega)
 obtain ⟨⟨cd,n⟩,hrn⟩:∃ r,r = rn s q:=⟨_,rfl⟩
 obtain ⟨ch,hch⟩:∃ ch,ch = bt s q:=⟨_,rfl⟩
 have hcr:=bt_range s q
 have hrb:=(rn_bounds s q (by omega) hlt).2.2.2.2.2
 rw [← hrn,← hch] at hrb
 rw [← hch] at hcr
 have hcd:ch < 128 → cd = ch ∧ n = 1:=fun h=>by
  have:=rn_small s q (by omega) hlt (by rw [← hch];exact h)
  rw [← hrn,← hch] at this
  exact Prod.mk.inj this
 have HRN:=Aside0.mk hrn
 have HCH:=Aside0.mk hch
 have hstp:stp s q false = if st3 s q 46 46 46 = true then .tok 6 ⟨#[]⟩ (q + 3) false
  else if 0 < sgn ch then .tok (sgn ch) ⟨#[]⟩ (q + 1) false
  else if isBg ch = true then .tok 15 (s.extract q.toNat (nme s q).toNat) (nme s q) false
  else if ch = 45 ∨ isDg ch = true then nums s q false
  else if st3 s q 34 34 34 = true then ofBlk q (blk s (s.size + 1) (q + 3) ⟨#[]⟩ false)
  else if ch = 34 then ofTxt q 18 (txt s (s.size + 1) (q + 1) ⟨#[]⟩ false)
  else .bad q false:=by
  unfold stp
  rw [if_neg hnb,if_neg (by simp [hbom]),if_neg h35,← hch]
 rw [hstp] at hsay
 have HSAY:=Aside0.mk hsay
 have hnb2:ch ≠ 9 ∧ ch ≠ 10 ∧ ch ≠ 13:=by rw [hch];exact ⟨fun h=>hnb (.inr (.inl h)),fun h=>hnb (.inr (.inr (.inl h))),fun h=>hnb (.inr (.inr (.inr (.inl h))))⟩
 clear hstp hsay hnb hbom h35 hrn hch
 go_wp2_with fail
 refine (runeAt_any s b c q _ (HS1.out.below HX2.out) hs (by omega) (by omega)).mono ?_
 rintro e w3 ⟨rfl,hb3⟩
 rw [← HRN.out]
 have HX3:Aside0 (Below W1.heap.size W1 w3):=⟨below_then HX2.out HX2.out.size hb3⟩
 clear hb3
 by_cases hctl:ch < 32
 ·as_aux_lemma=>
  obtain ⟨rfl,rfl⟩:=hcd (by omega)
  have b0:decide (cd < 32) = true:=decide_eq_true hctl
  have b9:(cd != 9) = true:=by simp [hnb2.1]
  have b10:(cd != 10) = true:=by simp [hnb2.2.1]
  have b13:(cd != 13) = true:=by simp [hnb2.2.2]
  have hf:T = none:=by
   have h3:st3 s q 46 46 46 = false:=by
    unfold st3
    rw [nx_bt hlt,← HCH.out,beq_eq_false_iff_ne.2 (by omega:cd ≠ 46)];rfl
   have h4:st3 s q 34 34 34 = false:=by
    unfold st3
    rw [nx_bt hlt,← HCH.out,beq_eq_false_iff_ne.2 (by omega:cd ≠ 34)];rfl
   have h:=HSAY.out
   have h5:sgn cd = 0:=by unfold sgn;simp only [if_neg (by omega:¬ cd = 33),if_neg (by omega:¬ cd = 36),if_neg (by omega:¬ cd = 40),if_neg (by omega:¬ cd = 41),if_neg (by omega:¬ cd = 58),if_neg (by omega:¬ cd = 61),if_neg (by omega:¬ cd = 64),if_neg (by omega:¬ cd = 91),if_neg (by omega:¬ cd = 93),if_neg (by omega:¬ cd = 123),if_neg (by omega:¬ cd = 124),if_neg (by omega:¬ cd = 125),if_neg (by omega:¬ cd = 38)]
   rw [if_neg (by simp [h3]),if_neg (by omega),if_neg (by rw [isBg_iff];omega),if_neg (by rw [isDg_iff];omega),if_neg (by simp [h4]),if_neg (by omega)] at h
   rw [HT.out,h.1];rfl
  have HF:=Aside0.mk hf
  clear hf hcd hrb hctl hnb2
  go_wp2_with fail
  refine (PFnReadString.synErr_any s g (some ⟨b,0,none⟩) c q _ _ (PFnReadString.old_cell HX3.out HG1.out) (HS1.out.below HX3.out).cells (HS1.out.below HX3.out).le hs (by omega) (by omega)).mono ?_
  rintro e w9 ⟨⟨q9,rfl⟩,hb9⟩
  have HX9:Aside0 (Below W1.heap.size W1 w9):=⟨below_then HX3.out HX3.out.size hb9⟩
  clear hb9
  have e0:w9.heap[w.heap.size]? = some (.cells #[.int .i64 0,.int .i64 0,.int .i64 0,.string ⟨#[]⟩] 58 (0,0)):=(HX9.out.block _ (by have:=HZ1.out;omega)).trans HE1.out
  have d0:=(blk_cell e0 0).trans rfl
  have d1:=(blk_cell e0 1).trans rfl
  have d2:=(blk_cell e0 2).trans rfl
  have d3:=(blk_cell e0 3).trans rfl
  have f0:=fun j=>blk_frozen e0 j
  have E0:=Aside0.mk e0
  clear e0
  go_wp2_with fail
  obtain ⟨q0,q1,q2,q3⟩:=res4 E0.out (.int .i64 0) (.int .i64 0) (.int .i64 0) (.string ⟨#[]⟩)
  refine bodyPost_ret (v:=.tuple #[tk 0 0 0 ⟨#[]⟩,.iface 182 (.pointer (some ⟨q9,0,none⟩))]) (by simp [results,Tryz.results66,go_sem,q0,q1,q2,q3]) rfl ⟨?_,?_⟩
  ·rw [HF.out]
   exact ⟨q9,rfl⟩
  ·exact set4_below (HB1.out.trans (HX9.out.mono (by have:=HZ1.out;omega))) (Nat.le_refl _) _ _ _ _
 have b0:decide (cd < 32) = false:=by
  refine decide_eq_false ?_
  by_cases h:ch < 128
  ·have:=(hcd h).1;omega
  ·have:=hrb (by omega);omega
 clear hnb2
 by_cases hsg:0 < sgn ch
 ·have hf:T = some (sgn ch,q,q + 1,⟨#[]⟩):=by
   have h3:st3 s q 46 46 46 = false:=by
    unfold st3
    rw [nx_bt hlt,← HCH.out,beq_eq_false_iff_ne.2 (by intro h;rw [h] at hsg;exact absurd hsg (by decide))];rfl
   have h:=HSAY.out
   rw [if_neg (by simp [h3]),if_pos hsg] at h
   rw [HT.out,h.1];rfl
  have HF:=Aside0.mk hf
  have hcs:ch = 33 ∨ ch = 36 ∨ ch = 38 ∨ ch = 40 ∨ ch = 41 ∨ ch = 58 ∨ ch = 61 ∨ ch = 64 ∨ ch = 91 ∨ ch = 93 ∨ ch = 123 ∨ ch = 124 ∨ ch = 125:=by
   unfold sgn at hsg
   by_cases h:ch = 33 ∨ ch = 36 ∨ ch = 38 ∨ ch = 40 ∨ ch = 41 ∨ ch = 58 ∨ ch = 61 ∨ ch = 64 ∨ ch = 91 ∨ ch = 93 ∨ ch = 123 ∨ ch = 124 ∨ ch = 125
   ·exact h
   ·exfalso
    simp only [not_or] at h
    simp only [if_neg h.1,if_neg h.2.1,if_neg h.2.2.1,if_neg h.2.2.2.1,if_neg h.2.2.2.2.1,if_neg h.2.2.2.2.2.1,if_neg h.2.2.2.2.2.2.1,if_neg h.2.2.2.2.2.2.2.1,if_neg h.2.2.2.2.2.2.2.2.1,if_neg h.2.2.2.2.2.2.2.2.2.1,if_neg h.2.2.2.2.2.2.2.2.2.2.1,if_neg h.2.2.2.2.2.2.2.2.2.2.2.1,if_neg h.2.2.2.2.2.2.2.2.2.2.2.2] at hsg
    exact absurd hsg (by decide)
  obtain ⟨rfl,rfl⟩:=hcd (by omega)
  clear hf hcd hrb hsg
  rcases hcs with rfl | rfl | rfl | rfl | rfl | rfl | rfl | rfl | rfl | rfl | rfl | rfl | rfl
  ·as_aux_lemma=>
   go_wp2_with fail
   refine (PFnReadString.lexer_makeToken.calls (2) (q) (q + 1) ⟨#[]⟩ (2) (q) (q + 1) ⟨#[]⟩ _ rfl).mono ?_
   rintro e w9 ⟨rfl,hb9⟩
   have HX9:Aside0 (Below W1.heap.size W1 w9):=⟨below_then HX3.out HX3.out.size hb9⟩
   clear hb9
   have e0:w9.heap[w.heap.size]? = some (.cells #[.int .i64 0,.int .i64 0,.int .i64 0,.string ⟨#[]⟩] 58 (0,0)):=(HX9.out.block _ (by have:=HZ1.out;omega)).trans HE1.out
   have d0:=(blk_cell e0 0).trans rfl
   have d1:=(blk_cell e0 1).trans rfl
   have d2:=(blk_cell e0 2).trans rfl
   have d3:=(blk_cell e0 3).trans rfl
   have f0:=fun j=>blk_frozen e0 j
   have E0:=Aside0.mk e0
   clear e0
   go_wp2_with fail
   obtain ⟨q0,q1,q2,q3⟩:=res4 E0.out (.int .i64 (2)) (.int .i64 (q)) (.int .i64 (q + 1)) (.string ⟨#[]⟩)
   refine bodyPost_ret (v:=.tuple #[tk (2) (q) (q + 1) ⟨#[]⟩,.nilIface]) (by simp [results,Tryz.results66,go_sem,q0,q1,q2,q3]) rfl ⟨?_,?_⟩
   ·rw [HF.out,show sgn 33 = 2 from rfl]
    exact rfl
   ·exact set4_below (HB1.out.trans (HX9.out.mono (by have:=HZ1.out;omega))) (Nat.le_refl _) _ _ _ _
  ·as_aux_lemma=>
   go_wp2_with fail
   refine (PFnReadString.lexer_makeToken.calls (3) (q) (q + 1) ⟨#[]⟩ (3) (q) (q + 1) ⟨#[]⟩ _ rfl).mono ?_
   rintro e w9 ⟨rfl,hb9⟩
   have HX9:Aside0 (Below W1.heap.size W1 w9):=⟨below_then HX3.out HX3.out.size hb9⟩
   clear hb9
   have e0:w9.heap[w.heap.size]? = some (.cells #[.int .i64 0,.int .i64 0,.int .i64 0,.string ⟨#[]⟩] 58 (0,0)):=(HX9.out.block _ (by have:=HZ1.out;omega)).trans HE1.out
   have d0:=(blk_cell e0 0).trans rfl
   have d1:=(blk_cell e0 1).trans rfl
   have d2:=(blk_cell e0 2).trans rfl
   have d3:=(blk_cell e0 3).trans rfl
   have f0:=fun j=>blk_frozen e0 j
   have E0:=Aside0.mk e0
   clear e0
   go_wp2_with fail
   obtain ⟨q0,q1,q2,q3⟩:=res4 E0.out (.int .i64 (3)) (.int .i64 (q)) (.int .i64 (q + 1)) (.string ⟨#[]⟩)
   refine bodyPost_ret (v:=.tuple #[tk (3) (q) (q + 1) ⟨#[]⟩,.nilIface]) (by simp [results,Tryz.results66,go_sem,q0,q1,q2,q3]) rfl ⟨?_,?_⟩
   ·rw [HF.out,show sgn 36 = 3 from rfl]
    exact rfl
   ·exact set4_below (HB1.out.trans (HX9.out.mono (by have:=HZ1.out;omega))) (Nat.le_refl _) _ _ _ _
  ·as_aux_lemma=>
   go_wp2_with fail
   refine (PFnReadString.lexer_makeToken.calls (20) (q) (q + 1) ⟨#[]⟩ (20) (q) (q + 1) ⟨#[]⟩ _ rfl).mono ?_
   rintro e w9 ⟨rfl,hb9⟩
   have HX9:Aside0 (Below W1.heap.size W1 w9):=⟨below_then HX3.out HX3.out.size hb9⟩
   clear hb9
   have e0:w9.heap[w.heap.size]? = some (.cells #[.int .i64 0,.int .i64 0,.int .i64 0,.string ⟨#[]⟩] 58 (0,0)):=(HX9.out.block _ (by have:=HZ1.out;omega)).trans HE1.out
   have d0:=(blk_cell e0 0).trans rfl
   have d1:=(blk_cell e0 1).trans rfl
   have d2:=(blk_cell e0 2).trans rfl
   have d3:=(blk_cell e0 3).trans rfl
   have f0:=fun j=>blk_frozen e0 j
   have E0:=Aside0.mk e0
   clear e0
   go_wp2_with fail
   obtain ⟨q0,q1,q2,q3⟩:=res4 E0.out (.int .i64 (20)) (.int .i64 (q)) (.int .i64 (q + 1)) (.string ⟨#[]⟩)
   refine bodyPost_ret (v:=.tuple #[tk (20) (q) (q + 1) ⟨#[]⟩,.nilIface]) (by simp [results,Tryz.results66,go_sem,q0,q1,q2,q3]) rfl ⟨?_,?_⟩
   ·rw [HF.out,show sgn 38 = 20 from rfl]
    exact rfl
   ·exact set4_below (HB1.out.trans (HX9.out.mono (by have:=HZ1.out;omega))) (Nat.le_refl _) _ _ _ _
  ·as_aux_lemma=>
   go_wp2_with fail
   refine (PFnReadString.lexer_makeToken.calls (4) (q) (q + 1) ⟨#[]⟩ (4) (q) (q + 1) ⟨#[]⟩ _ rfl).mono ?_
   rintro e w9 ⟨rfl,hb9⟩
   have HX9:Aside0 (Below W1.heap.size W1 w9):=⟨below_then HX3.out HX3.out.size hb9⟩
   clear hb9
   have e0:w9.heap[w.heap.size]? = some (.cells #[.int .i64 0,.int .i64 0,.int .i64 0,.string ⟨#[]⟩] 58 (0,0)):=(HX9.out.block _ (by have:=HZ1.out;omega)).trans HE1.out
   have d0:=(blk_cell e0 0).trans rfl
   have d1:=(blk_cell e0 1).trans rfl
   have d2:=(blk_cell e0 2).trans rfl
   have d3:=(blk_cell e0 3).trans rfl
   have f0:=fun j=>blk_frozen e0 j
   have E0:=Aside0.mk e0
   clear e0
   go_wp2_with fail
   obtain ⟨q0,q1,q2,q3⟩:=res4 E0.out (.int .i64 (4)) (.int .i64 (q)) (.int .i64 (q + 1)) (.string ⟨#[]⟩)
   refine bodyPost_ret (v:=.tuple #[tk (4) (q) (q + 1) ⟨#[]⟩,.nilIface]) (by simp [results,Tryz.results66,go_sem,q0,q1,q2,q3]) rfl ⟨?_,?_⟩
   ·rw [HF.out,show sgn 40 = 4 from rfl]
    exact rfl
   ·exact set4_below (HB1.out.trans (HX9.out.mono (by have:=HZ1.out;omega))) (Nat.le_refl _) _ _ _ _
  ·as_aux_lemma=>
   go_wp2_with fail
   refine (PFnReadString.lexer_makeToken.calls (5) (q) (q + 1) ⟨#[]⟩ (5) (q) (q + 1) ⟨#[]⟩ _ rfl).mono ?_
   rintro e w9 ⟨rfl,hb9⟩
   have HX9:Aside0 (Below W1.heap.size W1 w9):=⟨below_then HX3.out HX3.out.size hb9⟩
   clear hb9
   have e0:w9.heap[w.heap.size]? = some (.cells #[.int .i64 0,.int .i64 0,.int .i64 0,.string ⟨#[]⟩] 58 (0,0)):=(HX9.out.block _ (by have:=HZ1.out;omega)).trans HE1.out
   have d0:=(blk_cell e0 0).trans rfl
   have d1:=(blk_cell e0 1).trans rfl
   have d2:=(blk_cell e0 2).trans rfl
   have d3:=(blk_cell e0 3).trans rfl
   have f0:=fun j=>blk_frozen e0 j
   have E0:=Aside0.mk e0
   clear e0
   go_wp2_with fail
   obtain ⟨q0,q1,q2,q3⟩:=res4 E0.out (.int .i64 (5)) (.int .i64 (q)) (.int .i64 (q + 1)) (.string ⟨#[]⟩)
   refine bodyPost_ret (v:=.tuple #[tk (5) (q) (q + 1) ⟨#[]⟩,.nilIface]) (by simp [results,Tryz.results66,go_sem,q0,q1,q2,q3]) rfl ⟨?_,?_⟩
   ·rw [HF.out,show sgn 41 = 5 from rfl]
    exact rfl
   ·exact set4_below (HB1.out.trans (HX9.out.mono (by have:=HZ1.out;omega))) (Nat.le_refl _) _ _ _ _
  ·as_aux_lemma=>
   go_wp2_with fail
   refine (PFnReadString.lexer_makeToken.calls (7) (q) (q + 1) ⟨#[]⟩ (7) (q) (q + 1) ⟨#[]⟩ _ rfl).mono ?_
   rintro e w9 ⟨rfl,hb9⟩
   have HX9:Aside0 (Below W1.heap.size W1 w9):=⟨below_then HX3.out HX3.out.size hb9⟩
   clear hb9
   have e0:w9.heap[w.heap.size]? = some (.cells #[.int .i64 0,.int .i64 0,.int .i64 0,.string ⟨#[]⟩] 58 (0,0)):=(HX9.out.block _ (by have:=HZ1.out;omega)).trans HE1.out
   have d0:=(blk_cell e0 0).trans rfl
   have d1:=(blk_cell e0 1).trans rfl
   have d2:=(blk_cell e0 2).trans rfl
   have d3:=(blk_cell e0 3).trans rfl
   have f0:=fun j=>blk_frozen e0 j
   have E0:=Aside0.mk e0
   clear e0
   go_wp2_with fail
   obtain ⟨q0,q1,q2,q3⟩:=res4 E0.out (.int .i64 (7)) (.int .i64 (q)) (.int .i64 (q + 1)) (.string ⟨#[]⟩)
   refine bodyPost_ret (v:=.tuple #[tk (7) (q) (q + 1) ⟨#[]⟩,.nilIface]) (by simp [results,Tryz.results66,go_sem,q0,q1,q2,q3]) rfl ⟨?_,?_⟩
   ·rw [HF.out,show sgn 58 = 7 from rfl]
    exact rfl
   ·exact set4_below (HB1.out.trans (HX9.out.mono (by have:=HZ1.out;omega))) (Nat.le_refl _) _ _ _ _
  ·as_aux_lemma=>
   go_wp2_with fail
   refine (PFnReadString.lexer_makeToken.calls (8) (q) (q + 1) ⟨#[]⟩ (8) (q) (q + 1) ⟨#[]⟩ _ rfl).mono ?_
   rintro e w9 ⟨rfl,hb9⟩
   have HX9:Aside0 (Below W1.heap.size W1 w9):=⟨below_then HX3.out HX3.out.size hb9⟩
   clear hb9
   have e0:w9.heap[w.heap.size]? = some (.cells #[.int .i64 0,.int .i64 0,.int .i64 0,.string ⟨#[]⟩] 58 (0,0)):=(HX9.out.block _ (by have:=HZ1.out;omega)).trans HE1.out
   have d0:=(blk_cell e0 0).trans rfl
   have d1:=(blk_cell e0 1).trans rfl
   have d2:=(blk_cell e0 2).trans rfl
   have d3:=(blk_cell e0 3).trans rfl
   have f0:=fun j=>blk_frozen e0 j
   have E0:=Aside0.mk e0
   clear e0
   go_wp2_with fail
   obtain ⟨q0,q1,q2,q3⟩:=res4 E0.out (.int .i64 (8)) (.int .i64 (q)) (.int .i64 (q + 1)) (.string ⟨#[]⟩)
   refine bodyPost_ret (v:=.tuple #[tk (8) (q) (q + 1) ⟨#[]⟩,.nilIface]) (by simp [results,Tryz.results66,go_sem,q0,q1,q2,q3]) rfl ⟨?_,?_⟩
   ·rw [HF.out,show sgn 61 = 8 from rfl]
    exact rfl
   ·exact set4_below (HB1.out.trans (HX9.out.mono (by have:=HZ1.out;omega))) (Nat.le_refl _) _ _ _ _
  ·as_aux_lemma=>
   go_wp2_with fail
   refine (PFnReadString.lexer_makeToken.calls (9) (q) (q + 1) ⟨#[]⟩ (9) (q) (q + 1) ⟨#[]⟩ _ rfl).mono ?_
   rintro e w9 ⟨rfl,hb9⟩
   have HX9:Aside0 (Below W1.heap.size W1 w9):=⟨below_then HX3.out HX3.out.size hb9⟩
   clear hb9
   have e0:w9.heap[w.heap.size]? = some (.cells #[.int .i64 0,.int .i64 0,.int .i64 0,.string ⟨#[]⟩] 58 (0,0)):=(HX9.out.block _ (by have:=HZ1.out;omega)).trans HE1.out
   have d0:=(blk_cell e0 0).trans rfl
   have d1:=(blk_cell e0 1).trans rfl
   have d2:=(blk_cell e0 2).trans rfl
   have d3:=(blk_cell e0 3).trans rfl
   have f0:=fun j=>blk_frozen e0 j
   have E0:=Aside0.mk e0
   clear e0
   go_wp2_with fail
   obtain ⟨q0,q1,q2,q3⟩:=res4 E0.out (.int .i64 (9)) (.int .i64 (q)) (.int .i64 (q + 1)) (.string ⟨#[]⟩)
   refine bodyPost_ret (v:=.tuple #[tk (9) (q) (q + 1) ⟨#[]⟩,.nilIface]) (by simp [results,Tryz.results66,go_sem,q0,q1,q2,q3]) rfl ⟨?_,?_⟩
   ·rw [HF.out,show sgn 64 = 9 from rfl]
    exact rfl
   ·exact set4_below (HB1.out.trans (HX9.out.mono (by have:=HZ1.out;omega))) (Nat.le_refl _) _ _ _ _
  ·as_aux_lemma=>
   go_wp2_with fail
   refine (PFnReadString.lexer_makeToken.calls (10) (q) (q + 1) ⟨#[]⟩ (10) (q) (q + 1) ⟨#[]⟩ _ rfl).mono ?_
   rintro e w9 ⟨rfl,hb9⟩
   have HX9:Aside0 (Below W1.heap.size W1 w9):=⟨below_then HX3.out HX3.out.size hb9⟩
   clear hb9
   have e0:w9.heap[w.heap.size]? = some (.cells #[.int .i64 0,.int .i64 0,.int .i64 0,.string ⟨#[]⟩] 58 (0,0)):=(HX9.out.block _ (by have:=HZ1.out;omega)).trans HE1.out
   have d0:=(blk_cell e0 0).trans rfl
   have d1:=(blk_cell e0 1).trans rfl
   have d2:=(blk_cell e0 2).trans rfl
   have d3:=(blk_cell e0 3).trans rfl
   have f0:=fun j=>blk_frozen e0 j
   have E0:=Aside0.mk e0
   clear e0
   go_wp2_with fail
   obtain ⟨q0,q1,q2,q3⟩:=res4 E0.out (.int .i64 (10)) (.int .i64 (q)) (.int .i64 (q + 1)) (.string ⟨#[]⟩)
   refine bodyPost_ret (v:=.tuple #[tk (10) (q) (q + 1) ⟨#[]⟩,.nilIface]) (by simp [results,Tryz.results66,go_sem,q0,q1,q2,q3]) rfl ⟨?_,?_⟩
   ·rw [HF.out,show sgn 91 = 10 from rfl]
    exact rfl
   ·exact set4_below (HB1.out.trans (HX9.out.mono (by have:=HZ1.out;omega))) (Nat.le_refl _) _ _ _ _
  ·as_aux_lemma=>
   go_wp2_with fail
   refine (PFnReadString.lexer_makeToken.calls (11) (q) (q + 1) ⟨#[]⟩ (11) (q) (q + 1) ⟨#[]⟩ _ rfl).mono ?_
   rintro e w9 ⟨rfl,hb9⟩
   have HX9:Aside0 (Below W1.heap.size W1 w9):=⟨below_then HX3.out HX3.out.size hb9⟩
   clear hb9
   have e0:w9.heap[w.heap.size]? = some (.cells #[.int .i64 0,.int .i64 0,.int .i64 0,.string ⟨#[]⟩] 58 (0,0)):=(HX9.out.block _ (by have:=HZ1.out;omega)).trans HE1.out
   have d0:=(blk_cell e0 0).trans rfl
   have d1:=(blk_cell e0 1).trans rfl
   have d2:=(blk_cell e0 2).trans rfl
   have d3:=(blk_cell e0 3).trans rfl
   have f0:=fun j=>blk_frozen e0 j
   have E0:=Aside0.mk e0
   clear e0
   go_wp2_with fail
   obtain ⟨q0,q1,q2,q3⟩:=res4 E0.out (.int .i64 (11)) (.int .i64 (q)) (.int .i64 (q + 1)) (.string ⟨#[]⟩)
   refine bodyPost_ret (v:=.tuple #[tk (11) (q) (q + 1) ⟨#[]⟩,.nilIface]) (by simp [results,Tryz.results66,go_sem,q0,q1,q2,q3]) rfl ⟨?_,?_⟩
   ·rw [HF.out,show sgn 93 = 11 from rfl]
    exact rfl
   ·exact set4_below (HB1.out.trans (HX9.out.mono (by have:=HZ1.out;omega))) (Nat.le_refl _) _ _ _ _
  ·as_aux_lemma=>
   go_wp2_with fail
   refine (PFnReadString.lexer_makeToken.calls (12) (q) (q + 1) ⟨#[]⟩ (12) (q) (q + 1) ⟨#[]⟩ _ rfl).mono ?_
   rintro e w9 ⟨rfl,hb9⟩
   have HX9:Aside0 (Below W1.heap.size W1 w9):=⟨below_then HX3.out HX3.out.size hb9⟩
   clear hb9
   have e0:w9.heap[w.heap.size]? = some (.cells #[.int .i64 0,.int .i64 0,.int .i64 0,.string ⟨#[]⟩] 58 (0,0)):=(HX9.out.block _ (by have:=HZ1.out;omega)).trans HE1.out
   have d0:=(blk_cell e0 0).trans rfl
   have d1:=(blk_cell e0 1).trans rfl
   have d2:=(blk_cell e0 2).trans rfl
   have d3:=(blk_cell e0 3).trans rfl
   have f0:=fun j=>blk_frozen e0 j
   have E0:=Aside0.mk e0
   clear e0
   go_wp2_with fail
   obtain ⟨q0,q1,q2,q3⟩:=res4 E0.out (.int .i64 (12)) (.int .i64 (q)) (.int .i64 (q + 1)) (.string ⟨#[]⟩)
   refine bodyPost_ret (v:=.tuple #[tk (12) (q) (q + 1) ⟨#[]⟩,.nilIface]) (by simp [results,Tryz.results66,go_sem,q0,q1,q2,q3]) rfl ⟨?_,?_⟩
   ·rw [HF.out,show sgn 123 = 12 from rfl]
    exact rfl
   ·exact set4_below (HB1.out.trans (HX9.out.mono (by have:=HZ1.out;omega))) (Nat.le_refl _) _ _ _ _
  ·as_aux_lemma=>
   go_wp2_with fail
   refine (PFnReadString.lexer_makeToken.calls (13) (q) (q + 1) ⟨#[]⟩ (13) (q) (q + 1) ⟨#[]⟩ _ rfl).mono ?_
   rintro e w9 ⟨rfl,hb9⟩
   have HX9:Aside0 (Below W1.heap.size W1 w9):=⟨below_then HX3.out HX3.out.size hb9⟩
   clear hb9
   have e0:w9.heap[w.heap.size]? = some (.cells #[.int .i64 0,.int .i64 0,.int .i64 0,.string ⟨#[]⟩] 58 (0,0)):=(HX9.out.block _ (by have:=HZ1.out;omega)).trans HE1.out
   have d0:=(blk_cell e0 0).trans rfl
   have d1:=(blk_cell e0 1).trans rfl
   have d2:=(blk_cell e0 2).trans rfl
   have d3:=(blk_cell e0 3).trans rfl
   have f0:=fun j=>blk_frozen e0 j
   have E0:=Aside0.mk e0
   clear e0
   go_wp2_with fail
   obtain ⟨q0,q1,q2,q3⟩:=res4 E0.out (.int .i64 (13)) (.int .i64 (q)) (.int .i64 (q + 1)) (.string ⟨#[]⟩)
   refine bodyPost_ret (v:=.tuple #[tk (13) (q) (q + 1) ⟨#[]⟩,.nilIface]) (by simp [results,Tryz.results66,go_sem,q0,q1,q2,q3]) rfl ⟨?_,?_⟩
   ·rw [HF.out,show sgn 124 = 13 from rfl]
    exact rfl
   ·exact set4_below (HB1.out.trans (HX9.out.mono (by have:=HZ1.out;omega))) (Nat.le_refl _) _ _ _ _
  ·as_aux_lemma=>
   go_wp2_with fail
   refine (PFnReadString.lexer_makeToken.calls (14) (q) (q + 1) ⟨#[]⟩ (14) (q) (q + 1) ⟨#[]⟩ _ rfl).mono ?_
   rintro e w9 ⟨rfl,hb9⟩
   have HX9:Aside0 (Below W1.heap.size W1 w9):=⟨below_then HX3.out HX3.out.size hb9⟩
   clear hb9
   have e0:w9.heap[w.heap.size]? = some (.cells #[.int .i64 0,.int .i64 0,.int .i64 0,.string ⟨#[]⟩] 58 (0,0)):=(HX9.out.block _ (by have:=HZ1.out;omega)).trans HE1.out
   have d0:=(blk_cell e0 0).trans rfl
   have d1:=(blk_cell e0 1).trans rfl
   have d2:=(blk_cell e0 2).trans rfl
   have d3:=(blk_cell e0 3).trans rfl
   have f0:=fun j=>blk_frozen e0 j
   have E0:=Aside0.mk e0
   clear e0
   go_wp2_with fail
   obtain ⟨q0,q1,q2,q3⟩:=res4 E0.out (.int .i64 (14)) (.int .i64 (q)) (.int .i64 (q + 1)) (.string ⟨#[]⟩)
   refine bodyPost_ret (v:=.tuple #[tk (14) (q) (q + 1) ⟨#[]⟩,.nilIface]) (by simp [results,Tryz.results66,go_sem,q0,q1,q2,q3]) rfl ⟨?_,?_⟩
   ·rw [HF.out,show sgn 125 = 14 from rfl]
    exact rfl
   ·exact set4_below (HB1.out.trans (HX9.out.mono (by have:=HZ1.out;omega))) (Nat.le_refl _) _ _ _ _
 by_cases h46:ch = 46
 ·as_aux_lemma=>
  obtain ⟨rfl,rfl⟩:=hcd (by omega)
  obtain ⟨⟨c1,n1⟩,hrn1⟩:∃ r,r = rn s (q + 1):=⟨_,rfl⟩
  have hj1:=(rn_is s (q + 1) 46 (by omega) (by decide) (by decide)).1
  rw [← hrn1] at hj1
  have HRN1:=Aside0.mk hrn1
  obtain ⟨⟨c2,n2_⟩,hrn2⟩:∃ r,r = rn s (q + 2):=⟨_,rfl⟩
  have hj2:=(rn_is s (q + 2) 46 (by omega) (by decide) (by decide)).1
  rw [← hrn2] at hj2
  have HRN2:=Aside0.mk hrn2
  have hst:st3 s q 46 46 46 = (c1 == 46 && c2 == 46):=by
   unfold st3
   rw [nx_bt hlt,← HCH.out,Bool.eq_iff_iff]
   simp only [Bool.and_eq_true,beq_iff_eq]
   rw [hj1,hj2]
   exact ⟨fun h=>⟨h.1.2,h.2⟩,fun h=>⟨⟨h46,h.1⟩,h.2⟩⟩
  have h4:st3 s q 34 34 34 = false:=by
   unfold st3
   rw [nx_bt hlt,← HCH.out,beq_eq_false_iff_ne.2 (by omega:cd ≠ 34)];rfl
  have HST:=Aside0.mk hst
  have H4:=Aside0.mk h4
  clear hrn1 hrn2 hcd hrb hst hj1 hj2 h4
  have HSAY2:Aside0 ((if st3 s q 46 46 46 = true then Stp.tok 6 ⟨#[]⟩ (q + 3) false else .bad q false).says q R):=by
   have h:=HSAY.out
   by_cases hx:st3 s q 46 46 46 = true
   ·rw [if_pos hx] at h ⊢;exact ⟨h⟩
   ·rw [if_neg hx,if_neg (by rw [h46];decide),if_neg (by rw [h46];decide),if_neg (by rw [h46];decide),if_neg (by simp [H4.out]),if_neg (by omega)] at h
    rw [if_neg hx];exact ⟨h⟩
  subst h46
  go_wp2_with fail
  refine (runeAt_any s b c (q + 1) _ (HS1.out.below HX3.out) hs (by omega) (by omega)).mono ?_
  rintro e w4 ⟨rfl,hb2⟩
  rw [← HRN1.out]
  have HX4:Aside0 (Below W1.heap.size W1 w4):=⟨below_then HX3.out HX3.out.size hb2⟩
  clear hb2
  go_wp2_with fail
  refine (runeAt_any s b c (q + 2) _ (HS1.out.below HX4.out) hs (by omega) (by omega)).mono ?_
  rintro e w5 ⟨rfl,hb2⟩
  rw [← HRN2.out]
  have HX5:Aside0 (Below W1.heap.size W1 w5):=⟨below_then HX4.out HX4.out.size hb2⟩
  clear hb2
  by_cases e1:c1 = 46
  ·have b1:(c1 == 46) = true:=by simp [e1]
   by_cases e2:c2 = 46
   ·have b2:(c2 == 46) = true:=by simp [e2]
    have hf:T = some (6,q,q + 3,⟨#[]⟩):=by
     have h:=HSAY2.out
     rw [HST.out,b1,b2] at h
     have h:(Stp.tok 6 ⟨#[]⟩ (q + 3) false).says q R:=h
     rw [HT.out,h.1];rfl
    have HF:=Aside0.mk hf
    clear e1 e2 hf
    go_wp2_with fail
    refine (PFnReadString.lexer_makeToken.calls (6) (q) (q + 3) ⟨#[]⟩ (6) (q) (q + 3) ⟨#[]⟩ _ rfl).mono ?_
    rintro e w9 ⟨rfl,hb9⟩
    have HX9:Aside0 (Below W1.heap.size W1 w9):=⟨below_then HX5.out HX5.out.size hb9⟩
    clear hb9
    have e0:w9.heap[w.heap.size]? = some (.cells #[.int .i64 0,.int .i64 0,.int .i64 0,.string ⟨#[]⟩] 58 (0,0)):=(HX9.out.block _ (by have:=HZ1.out;omega)).trans HE1.out
    have d0:=(blk_cell e0 0).trans rfl
    have d1:=(blk_cell e0 1).trans rfl
    have d2:=(blk_cell e0 2).trans rfl
    have d3:=(blk_cell e0 3).trans rfl
    have f0:=fun j=>blk_frozen e0 j
    have E0:=Aside0.mk e0
    clear e0
    go_wp2_with fail
    obtain ⟨q0,q1,q2,q3⟩:=res4 E0.out (.int .i64 (6)) (.int .i64 (q)) (.int .i64 (q + 3)) (.string ⟨#[]⟩)
    refine bodyPost_ret (v:=.tuple #[tk (6) (q) (q + 3) ⟨#[]⟩,.nilIface]) (by simp [results,Tryz.results66,go_sem,q0,q1,q2,q3]) rfl ⟨?_,?_⟩
    ·rw [HF.out]
     exact rfl
    ·exact set4_below (HB1.out.trans (HX9.out.mono (by have:=HZ1.out;omega))) (Nat.le_refl _) _ _ _ _
   ·have b2:(c2 == 46) = false:=by simp [e2]
    have hf:T = none:=by
     have h:=HSAY2.out
     rw [HST.out,b1,b2,if_neg (by simp)] at h
     rw [HT.out,h.1];rfl
    have HF:=Aside0.mk hf
    clear e1 e2 hf
    go_wp2_with fail
    refine (PFnReadString.synErr_any s g (some ⟨b,0,none⟩) c q _ _ (PFnReadString.old_cell HX5.out HG1.out) (HS1.out.below HX5.out).cells (HS1.out.below HX5.out).le hs (by omega) (by omega)).mono ?_
    rintro e w9 ⟨⟨q9,rfl⟩,hb9⟩
    have HX9:Aside0 (Below W1.heap.size W1 w9):=⟨below_then HX5.out HX5.out.size hb9⟩
    clear hb9
    have e0:w9.heap[w.heap.size]? = some (.cells #[.int .i64 0,.int .i64 0,.int .i64 0,.string ⟨#[]⟩] 58 (0,0)):=(HX9.out.block _ (by have:=HZ1.out;omega)).trans HE1.out
    have d0:=(blk_cell e0 0).trans rfl
    have d1:=(blk_cell e0 1).trans rfl
    have d2:=(blk_cell e0 2).trans rfl
    have d3:=(blk_cell e0 3).trans rfl
    have f0:=fun j=>blk_frozen e0 j
    have E0:=Aside0.mk e0
    clear e0
    go_wp2_with fail
    obtain ⟨q0,q1,q2,q3⟩:=res4 E0.out (.int .i64 0) (.int .i64 0) (.int .i64 0) (.string ⟨#[]⟩)
    refine bodyPost_ret (v:=.tuple #[tk 0 0 0 ⟨#[]⟩,.iface 182 (.pointer (some ⟨q9,0,none⟩))]) (by simp [results,Tryz.results66,go_sem,q0,q1,q2,q3]) rfl ⟨?_,?_⟩
    ·rw [HF.out]
     exact ⟨q9,rfl⟩
    ·exact set4_below (HB1.out.trans (HX9.out.mono (by have:=HZ1.out;omega))) (Nat.le_refl _) _ _ _ _
  ·have b1:(c1 == 46) = false:=by simp [e1]
   have hf:T = none:=by
    have h:=HSAY2.out
    rw [HST.out,b1,if_neg (by simp)] at h
    rw [HT.out,h.1];rfl
   have HF:=Aside0.mk hf
   clear e1 hf
   go_wp2_with fail
   refine (PFnReadString.synErr_any s g (some ⟨b,0,none⟩) c q _ _ (PFnReadString.old_cell HX5.out HG1.out) (HS1.out.below HX5.out).cells (HS1.out.below HX5.out).le hs (by omega) (by omega)).mono ?_
   rintro e w9 ⟨⟨q9,rfl⟩,hb9⟩
   have HX9:Aside0 (Below W1.heap.size W1 w9):=⟨below_then HX5.out HX5.out.size hb9⟩
   clear hb9
   have e0:w9.heap[w.heap.size]? = some (.cells #[.int .i64 0,.int .i64 0,.int .i64 0,.string ⟨#[]⟩] 58 (0,0)):=(HX9.out.block _ (by have:=HZ1.out;omega)).trans HE1.out
   have d0:=(blk_cell e0 0).trans rfl
   have d1:=(blk_cell e0 1).trans rfl
   have d2:=(blk_cell e0 2).trans rfl
   have d3:=(blk_cell e0 3).trans rfl
   have f0:=fun j=>blk_frozen e0 j
   have E0:=Aside0.mk e0
   clear e0
   go_wp2_with fail
   obtain ⟨q0,q1,q2,q3⟩:=res4 E0.out (.int .i64 0) (.int .i64 0) (.int .i64 0) (.string ⟨#[]⟩)
   refine bodyPost_ret (v:=.tuple #[tk 0 0 0 ⟨#[]⟩,.iface 182 (.pointer (some ⟨q9,0,none⟩))]) (by simp [results,Tryz.results66,go_sem,q0,q1,q2,q3]) rfl ⟨?_,?_⟩
   ·rw [HF.out]
    exact ⟨q9,rfl⟩
   ·exact set4_below (HB1.out.trans (HX9.out.mono (by have:=HZ1.out;omega))) (Nat.le_refl _) _ _ _ _
 have hn33:cd ≠ 33 ∧ cd ≠ 36 ∧ cd ≠ 38 ∧ cd ≠ 40 ∧ cd ≠ 41 ∧ cd ≠ 46 ∧ cd ≠ 58 ∧ cd ≠ 61 ∧ cd ≠ 64 ∧ cd ≠ 91 ∧ cd ≠ 93 ∧ cd ≠ 123 ∧ cd ≠ 124 ∧ cd ≠ 125:=by
  by_cases h:ch < 128
  ·obtain ⟨rfl,-⟩:=hcd h
   refine ⟨?_,?_,?_,?_,?_,h46,?_,?_,?_,?_,?_,?_,?_,?_⟩
   all_goals
    rintro rfl
    exact absurd (by decide) hsg
  ·have:=hrb (by omega);omega
 have n33:(cd == 33) = false:=beq_eq_false_iff_ne.2 hn33.1
 have n36:(cd == 36) = false:=beq_eq_false_iff_ne.2 hn33.2.1
 have n38:(cd == 38) = false:=beq_eq_false_iff_ne.2 hn33.2.2.1
 have n40:(cd == 40) = false:=beq_eq_false_iff_ne.2 hn33.2.2.2.1
 have n41:(cd == 41) = false:=beq_eq_false_iff_ne.2 hn33.2.2.2.2.1
 have n46:(cd == 46) = false:=beq_eq_false_iff_ne.2 hn33.2.2.2.2.2.1
 have n58:(cd == 58) = false:=beq_eq_false_iff_ne.2 hn33.2.2.2.2.2.2.1
 have n61:(cd == 61) = false:=beq_eq_false_iff_ne.2 hn33.2.2.2.2.2.2.2.1
 have n64:(cd == 64) = false:=beq_eq_false_iff_ne.2 hn33.2.2.2.2.2.2.2.2.1
 have n91:(cd == 91) = false:=beq_eq_false_iff_ne.2 hn33.2.2.2.2.2.2.2.2.2.1
 have n93:(cd == 93) = false:=beq_eq_false_iff_ne.2 hn33.2.2.2.2.2.2.2.2.2.2.1
 have n123:(cd == 123) = false:=beq_eq_false_iff_ne.2 hn33.2.2.2.2.2.2.2.2.2.2.2.1
 have n124:(cd == 124) = false:=beq_eq_false_iff_ne.2 hn33.2.2.2.2.2.2.2.2.2.2.2.2.1
 have n125:(cd == 125) = false:=beq_eq_false_iff_ne.2 hn33.2.2.2.2.2.2.2.2.2.2.2.2.2
 clear hn33
 have hcdx:(65 ≤ cd ∧ cd ≤ 90 ∨ 97 ≤ cd ∧ cd ≤ 122 ∨ cd = 95 ∨ 48 ≤ cd ∧ cd ≤ 57 ∨ cd = 45 ∨ cd = 34) → cd = ch:=by
  intro h
  by_cases h2:ch < 128
  ·exact (hcd h2).1
  ·have:=hrb (by omega);omega
 have hchx:(65 ≤ ch ∧ ch ≤ 90 ∨ 97 ≤ ch ∧ ch ≤ 122 ∨ ch = 95 ∨ 48 ≤ ch ∧ ch ≤ 57 ∨ ch = 45 ∨ ch = 34) → cd = ch:=fun h=>(hcd (by omega)).1
 have h3:st3 s q 46 46 46 = false:=by
  unfold st3
  rw [nx_bt hlt,← HCH.out,beq_eq_false_iff_ne.2 h46];rfl
 have hsay2:=HSAY.out
 rw [if_neg (by simp [h3]),if_neg hsg] at hsay2
 have HSAY2:=Aside0.mk hsay2
 have HCDX:=Aside0.mk hcdx
 have HCHX:=Aside0.mk hchx
 have HCD:=Aside0.mk hcd
 clear hsay2 h3 hcdx hchx hcd hrb hsg h46
 go_upto_if 167 with fail
 go_step
 obtain ⟨up,hup⟩:∃ b:Bool,b = (decide (65 ≤ cd) && decide (cd ≤ 90)):=⟨_,rfl⟩
 have Hup:=Aside0.mk hup
 clear hup
 refine wp_seq (chain_at 68 173 41 26 cd up (65, "lexer.go:528") [(66, "lexer.go:528"),(67, "lexer.go:528"),(68, "lexer.go:528"),(69, "lexer.go:528"),(70, "lexer.go:528"),(71, "lexer.go:528"),(72, "lexer.go:528"),(73, "lexer.go:528"),(74, "lexer.go:528"),(75, "lexer.go:528"),(76, "lexer.go:528"),(77, "lexer.go:528"),(78, "lexer.go:528"),(79, "lexer.go:529"),(80, "lexer.go:529"),(81, "lexer.go:529"),(82, "lexer.go:529"),(83, "lexer.go:529"),(84, "lexer.go:529"),(85, "lexer.go:529"),(86, "lexer.go:529"),(87, "lexer.go:529"),(88, "lexer.go:529"),(89, "lexer.go:529"),(90, "lexer.go:529")] rfl (by decide) rfl (by simp) ?_ ?_)
 ·rw [Hup.out,Bool.eq_iff_iff]
  simp only [List.any_cons,List.any_nil,Bool.or_eq_true,Bool.and_eq_true,decide_eq_true_eq,beq_iff_eq,Bool.false_eq_true,or_false]
  omega
 intro vs hvs
 rcases vs with _ | ⟨y0,vs⟩
 ·cases hvs
 rcases vs with _ | ⟨y1,vs⟩
 ·cases hvs
 rcases vs with _ | ⟨y2,vs⟩
 ·cases hvs
 rcases vs with _ | ⟨y3,vs⟩
 ·cases hvs
 rcases vs with _ | ⟨y4,vs⟩
 ·cases hvs
 rcases vs with _ | ⟨y5,vs⟩
 ·cases hvs
 rcases vs with _ | ⟨y6,vs⟩
 ·cases hvs
 rcases vs with _ | ⟨y7,vs⟩
 ·cases hvs
 rcases vs with _ | ⟨y8,vs⟩
 ·cases hvs
 rcases vs with _ | ⟨y9,vs⟩
 ·cases hvs
 rcases vs with _ | ⟨y10,vs⟩
 ·cases hvs
 rcases vs with _ | ⟨y11,vs⟩
 ·cases hvs
 rcases vs with _ | ⟨y12,vs⟩
 ·cases hvs
 rcases vs with _ | ⟨y13,vs⟩
 ·cases hvs
 rcases vs with _ | ⟨y14,vs⟩
 ·cases hvs
 rcases vs with _ | ⟨y15,vs⟩
 ·cases hvs
 rcases vs with _ | ⟨y16,vs⟩
 ·cases hvs
 rcases vs with _ | ⟨y17,vs⟩
 ·cases hvs
 rcases vs with _ | ⟨y18,vs⟩
 ·cases hvs
 rcases vs with _ | ⟨y19,vs⟩
 ·cases hvs
 rcases vs with _ | ⟨y20,vs⟩
 ·cases hvs
 rcases vs with _ | ⟨y21,vs⟩
 ·cases hvs
 rcases vs with _ | ⟨y22,vs⟩
 ·cases hvs
 rcases vs with _ | ⟨y23,vs⟩
 ·cases hvs
 rcases vs with _ | ⟨y24,vs⟩
 ·cases hvs
 rcases vs with _ | ⟨y25,vs⟩
 ·cases hvs
 obtain rfl:vs = []:=by
  cases vs with
  | nil=>rfl
  | cons a b=>simp at hvs
 clear hvs
 dsimp only [List.take,List.drop,List.cons_append,List.nil_append,Exit.then]
 go_upto_if 173 with fail
 cases hb:up with
 | true=>
  as_aux_lemma=>
  have hx:=Hup.out
  rw [hb] at hx
  have hbg:isBg ch = true:=by
   simp only [Bool.true_eq,Bool.or_eq_true,Bool.and_eq_true,decide_eq_true_eq,beq_iff_eq] at hx
   have:=HCDX.out (by omega)
   rw [isBg_iff];omega
  obtain ⟨v,hv⟩:∃ v,v = s.extract q.toNat (nme s (q + 1)).toNat:=⟨_,rfl⟩
  obtain ⟨en,hen⟩:∃ en,en = nme s (q + 1):=⟨_,rfl⟩
  have hf:T = some (15,q,en,v):=by
   have h:=HSAY2.out
   rw [if_pos hbg] at h
   have e:nme s q = nme s (q + 1):=by
    have hn:isNm (nx s q) = true:=by rw [nx_bt hlt,← HCH.out];unfold isNm;rw [hbg];rfl
    rw [nme_eq,if_pos hn]
   rw [e] at h
   rw [HT.out,h.1,hv,hen];rfl
  have HF:=Aside0.mk hf
  have HV:=Aside0.mk hv
  have HEN:=Aside0.mk hen
  clear hf hv hen hbg hx hb
  go_wp2_with fail
  refine (readName_any s g b c q _ (HS1.out.below HX3.out) (PFnReadString.old_cell HX3.out HG1.out) hs (by omega) hlt).mono ?_
  rintro e w9 ⟨rfl,hb9⟩
  rw [← HV.out,← HEN.out]
  have HX9:Aside0 (Below W1.heap.size W1 w9):=⟨below_then HX3.out HX3.out.size hb9⟩
  clear hb9
  have e0:w9.heap[w.heap.size]? = some (.cells #[.int .i64 0,.int .i64 0,.int .i64 0,.string ⟨#[]⟩] 58 (0,0)):=(HX9.out.block _ (by have:=HZ1.out;omega)).trans HE1.out
  have d0:=(blk_cell e0 0).trans rfl
  have d1:=(blk_cell e0 1).trans rfl
  have d2:=(blk_cell e0 2).trans rfl
  have d3:=(blk_cell e0 3).trans rfl
  have f0:=fun j=>blk_frozen e0 j
  have E0:=Aside0.mk e0
  clear e0
  go_wp2_with fail
  obtain ⟨q0,q1,q2,q3⟩:=res4 E0.out (.int .i64 (15)) (.int .i64 (q)) (.int .i64 (en)) (.string v)
  refine bodyPost_ret (v:=.tuple #[tk (15) (q) (en) v,.nilIface]) (by simp [results,Tryz.results66,go_sem,q0,q1,q2,q3]) rfl ⟨?_,?_⟩
  ·rw [HF.out]
   exact rfl
  ·exact set4_below (HB1.out.trans (HX9.out.mono (by have:=HZ1.out;omega))) (Nat.le_refl _) _ _ _ _
 | false=>
 have HUPF:=Aside0.mk hb
 clear hb
 go_step
 obtain ⟨lo,hlo⟩:∃ b:Bool,b = (cd == 95 || (decide (97 ≤ cd) && decide (cd ≤ 122))):=⟨_,rfl⟩
 have Hlo:=Aside0.mk hlo
 clear hlo
 refine wp_seq (chain_at 68 204 68 27 cd lo (95, "lexer.go:533") [(97, "lexer.go:533"),(98, "lexer.go:533"),(99, "lexer.go:533"),(100, "lexer.go:533"),(101, "lexer.go:533"),(102, "lexer.go:533"),(103, "lexer.go:533"),(104, "lexer.go:533"),(105, "lexer.go:533"),(106, "lexer.go:533"),(107, "lexer.go:533"),(108, "lexer.go:533"),(109, "lexer.go:533"),(110, "lexer.go:533"),(111, "lexer.go:534"),(112, "lexer.go:534"),(113, "lexer.go:534"),(114, "lexer.go:534"),(115, "lexer.go:534"),(116, "lexer.go:534"),(117, "lexer.go:534"),(118, "lexer.go:534"),(119, "lexer.go:534"),(120, "lexer.go:534"),(121, "lexer.go:534"),(122, "lexer.go:534")] rfl (by decide) rfl (by simp) ?_ ?_)
 ·rw [Hlo.out,Bool.eq_iff_iff]
  simp only [List.any_cons,List.any_nil,Bool.or_eq_true,Bool.and_eq_true,decide_eq_true_eq,beq_iff_eq,Bool.false_eq_true,or_false]
  omega
 intro vs hvs
 rcases vs with _ | ⟨y0,vs⟩
 ·cases hvs
 rcases vs with _ | ⟨y1,vs⟩
 ·cases hvs
 rcases vs with _ | ⟨y2,vs⟩
 ·cases hvs
 rcases vs with _ | ⟨y3,vs⟩
 ·cases hvs
 rcases vs with _ | ⟨y4,vs⟩
 ·cases hvs
 rcases vs with _ | ⟨y5,vs⟩
 ·cases hvs
 rcases vs with _ | ⟨y6,vs⟩
 ·cases hvs
 rcases vs with _ | ⟨y7,vs⟩
 ·cases hvs
 rcases vs with _ | ⟨y8,vs⟩
 ·cases hvs
 rcases vs with _ | ⟨y9,vs⟩
 ·cases hvs
 rcases vs with _ | ⟨y10,vs⟩
 ·cases hvs
 rcases vs with _ | ⟨y11,vs⟩
 ·cases hvs
 rcases vs with _ | ⟨y12,vs⟩
 ·cases hvs
 rcases vs with _ | ⟨y13,vs⟩
 ·cases hvs
 rcases vs with _ | ⟨y14,vs⟩
 ·cases hvs
 rcases vs with _ | ⟨y15,vs⟩
 ·cases hvs
 rcases vs with _ | ⟨y16,vs⟩
 ·cases hvs
 rcases vs with _ | ⟨y17,vs⟩
 ·cases hvs
 rcases vs with _ | ⟨y18,vs⟩
 ·cases hvs
 rcases vs with _ | ⟨y19,vs⟩
 ·cases hvs
 rcases vs with _ | ⟨y20,vs⟩
 ·cases hvs
 rcases vs with _ | ⟨y21,vs⟩
 ·cases hvs
 rcases vs with _ | ⟨y22,vs⟩
 ·cases hvs
 rcases vs with _ | ⟨y23,vs⟩
 ·cases hvs
 rcases vs with _ | ⟨y24,vs⟩
 ·cases hvs
 rcases vs with _ | ⟨y25,vs⟩
 ·cases hvs
 rcases vs with _ | ⟨y26,vs⟩
 ·cases hvs
 obtain rfl:vs = []:=by
  cases vs with
  | nil=>rfl
  | cons a b=>simp at hvs
 clear hvs
 dsimp only [List.take,List.drop,List.cons_append,List.nil_append,Exit.then]
 go_upto_if 204 with fail
 cases hb:lo with
 | true=>
  as_aux_lemma=>
  have hx:=Hlo.out
  rw [hb] at hx
  have hbg:isBg ch = true:=by
   simp only [Bool.true_eq,Bool.or_eq_true,Bool.and_eq_true,decide_eq_true_eq,beq_iff_eq] at hx
   have:=HCDX.out (by omega)
   rw [isBg_iff];omega
  obtain ⟨v,hv⟩:∃ v,v = s.extract q.toNat (nme s (q + 1)).toNat:=⟨_,rfl⟩
  obtain ⟨en,hen⟩:∃ en,en = nme s (q + 1):=⟨_,rfl⟩
  have hf:T = some (15,q,en,v):=by
   have h:=HSAY2.out
   rw [if_pos hbg] at h
   have e:nme s q = nme s (q + 1):=by
    have hn:isNm (nx s q) = true:=by rw [nx_bt hlt,← HCH.out];unfold isNm;rw [hbg];rfl
    rw [nme_eq,if_pos hn]
   rw [e] at h
   rw [HT.out,h.1,hv,hen];rfl
  have HF:=Aside0.mk hf
  have HV:=Aside0.mk hv
  have HEN:=Aside0.mk hen
  clear hf hv hen hbg hx hb
  go_wp2_with fail
  refine (readName_any s g b c q _ (HS1.out.below HX3.out) (PFnReadString.old_cell HX3.out HG1.out) hs (by omega) hlt).mono ?_
  rintro e w9 ⟨rfl,hb9⟩
  rw [← HV.out,← HEN.out]
  have HX9:Aside0 (Below W1.heap.size W1 w9):=⟨below_then HX3.out HX3.out.size hb9⟩
  clear hb9
  have e0:w9.heap[w.heap.size]? = some (.cells #[.int .i64 0,.int .i64 0,.int .i64 0,.string ⟨#[]⟩] 58 (0,0)):=(HX9.out.block _ (by have:=HZ1.out;omega)).trans HE1.out
  have d0:=(blk_cell e0 0).trans rfl
  have d1:=(blk_cell e0 1).trans rfl
  have d2:=(blk_cell e0 2).trans rfl
  have d3:=(blk_cell e0 3).trans rfl
  have f0:=fun j=>blk_frozen e0 j
  have E0:=Aside0.mk e0
  clear e0
  go_wp2_with fail
  obtain ⟨q0,q1,q2,q3⟩:=res4 E0.out (.int .i64 (15)) (.int .i64 (q)) (.int .i64 (en)) (.string v)
  refine bodyPost_ret (v:=.tuple #[tk (15) (q) (en) v,.nilIface]) (by simp [results,Tryz.results66,go_sem,q0,q1,q2,q3]) rfl ⟨?_,?_⟩
  ·rw [HF.out]
   exact rfl
  ·exact set4_below (HB1.out.trans (HX9.out.mono (by have:=HZ1.out;omega))) (Nat.le_refl _) _ _ _ _
 | false=>
 have HLOF:=Aside0.mk hb
 clear hb
 go_step
 obtain ⟨di,hdi⟩:∃ b:Bool,b = (cd == 45 || (decide (48 ≤ cd) && decide (cd ≤ 57))):=⟨_,rfl⟩
 have Hdi:=Aside0.mk hdi
 clear hdi
 refine wp_seq (chain_at 68 236 96 11 cd di (45, "lexer.go:538") [(48, "lexer.go:538"),(49, "lexer.go:538"),(50, "lexer.go:538"),(51, "lexer.go:538"),(52, "lexer.go:538"),(53, "lexer.go:538"),(54, "lexer.go:538"),(55, "lexer.go:538"),(56, "lexer.go:538"),(57, "lexer.go:538")] rfl (by decide) rfl (by simp) ?_ ?_)
 ·rw [Hdi.out,Bool.eq_iff_iff]
  simp only [List.any_cons,List.any_nil,Bool.or_eq_true,Bool.and_eq_true,decide_eq_true_eq,beq_iff_eq,Bool.false_eq_true,or_false]
  omega
 intro vs hvs
 rcases vs with _ | ⟨y0,vs⟩
 ·cases hvs
 rcases vs with _ | ⟨y1,vs⟩
 ·cases hvs
 rcases vs with _ | ⟨y2,vs⟩
 ·cases hvs
 rcases vs with _ | ⟨y3,vs⟩
 ·cases hvs
 rcases vs with _ | ⟨y4,vs⟩
 ·cases hvs
 rcases vs with _ | ⟨y5,vs⟩
 ·cases hvs
 rcases vs with _ | ⟨y6,vs⟩
 ·cases hvs
 rcases vs with _ | ⟨y7,vs⟩
 ·cases hvs
 rcases vs with _ | ⟨y8,vs⟩
 ·cases hvs
 rcases vs with _ | ⟨y9,vs⟩
 ·cases hvs
 rcases vs with _ | ⟨y10,vs⟩
 ·cases hvs
 obtain rfl:vs = []:=by
  cases vs with
  | nil=>rfl
  | cons a b=>simp at hvs
 clear hvs
 dsimp only [List.take,List.drop,List.cons_append,List.nil_append,Exit.then]
 have hnbg:isBg ch = false:=by
  have h1:=Hup.out
  have h2:=Hlo.out
  rw [HUPF.out] at h1
  rw [HLOF.out] at h2
  cases hx:isBg ch with
  | false=>rfl
  | true=>
   rw [isBg_iff] at hx
   have:=HCHX.out (by omega)
   subst this
   exfalso
   simp only [Bool.false_eq,Bool.or_eq_false_iff,Bool.and_eq_false_iff,decide_eq_false_iff_not,beq_eq_false_iff_ne] at h1 h2
   omega
 have hsay3:=HSAY2.out
 rw [if_neg (by simp [hnbg])] at hsay3
 have HSAY3:=Aside0.mk hsay3
 clear hnbg hsay3
 go_upto_if 236 with fail
 cases hb:di with
 | true=>
  as_aux_lemma=>
  have hnd:ch = 45 ∨ isDg ch = true:=by
   have h1:=Hdi.out
   rw [hb] at h1
   simp only [Bool.true_eq,Bool.or_eq_true,Bool.and_eq_true,decide_eq_true_eq,beq_iff_eq] at h1
   have:=HCDX.out (by omega)
   rw [isDg_iff];omega
  have hsay4:=HSAY3.out
  rw [if_pos hnd] at hsay4
  have hTN:T = numTok s q:=by
   rw [HT.out]
   unfold nums at hsay4
   cases hx:num s q with
   | none=>
    rw [hx] at hsay4
    have h:(Stp.bad q false).says q R:=hsay4
    rw [h.1];unfold numTok;rw [hx];rfl
   | some r=>
    obtain ⟨k,e⟩:=r
    rw [hx] at hsay4
    have h:(if nx s e = 46 ∨ isBg (nx s e) = true then Stp.bad q true else .tok k (s.extract q.toNat e.toNat) e false).says q R:=hsay4
    by_cases h8:nx s e = 46 ∨ isBg (nx s e) = true
    ·rw [if_pos h8] at h;cases h.2
    ·rw [if_neg h8] at h
     rw [h.1];unfold numTok;rw [hx];rfl
  have HTN:=Aside0.mk hTN
  have hdd:=readNumber_any s g b c q w3 (HS1.out.below HX3.out) (PFnReadString.old_cell HX3.out HG1.out) hs (by omega) hlt
  rw [← HRN.out] at hdd
  have HDD:=Aside0.mk hdd
  clear hdd hTN hsay4 hnd hb
  go_wp2_with fail
  refine HDD.out.mono ?_
  rintro e w4 ⟨he,hb4⟩
  rw [← HTN.out] at he
  have HX4:Aside0 (Below W1.heap.size W1 w4):=⟨below_then HX3.out HX3.out.size hb4⟩
  clear hb4
  have e0:w4.heap[w.heap.size]? = some (.cells #[.int .i64 0,.int .i64 0,.int .i64 0,.string ⟨#[]⟩] 58 (0,0)):=(HX4.out.block _ (by have:=HZ1.out;omega)).trans HE1.out
  have d0:=(blk_cell e0 0).trans rfl
  have d1:=(blk_cell e0 1).trans rfl
  have d2:=(blk_cell e0 2).trans rfl
  have d3:=(blk_cell e0 3).trans rfl
  have f0:=fun j=>blk_frozen e0 j
  have E0:=Aside0.mk e0
  clear e0
  have hz:w.heap.size < w4.heap.size:=by have:=HX4.out.size;have:=HZ1.out;omega
  rcases hTc:T with _ | ⟨t0,t1,t2,t3⟩
  ·rw [hTc] at he
   obtain ⟨q9,rfl⟩:=he
   have HF:=Aside0.mk hTc
   clear hTc
   go_wp2_with fail
   obtain ⟨q0,q1,q2,q3⟩:=res4a E0.out (.int .i64 0) (.int .i64 0) (.int .i64 0) (.string ⟨#[]⟩) (.cells #[.int .i64 0,.int .i64 0,.int .i64 0,.string ⟨#[]⟩] 58)
   refine bodyPost_ret (v:=.tuple #[tk 0 0 0 ⟨#[]⟩,.iface 182 (.pointer (some ⟨q9,0,none⟩))]) (by simp [results,Tryz.results66,go_sem,q0,q1,q2,q3]) rfl ⟨by rw [HF.out];exact ⟨q9,rfl⟩,?_⟩
   refine Below.alloc (set4_below (HB1.out.trans (HX4.out.mono (by have:=HZ1.out;omega))) (Nat.le_refl _) _ _ _ _) (set4_below (HB1.out.trans (HX4.out.mono (by have:=HZ1.out;omega))) (Nat.le_refl _) _ _ _ _).size _
  ·rw [hTc] at he
   obtain rfl:e = .returned (.tuple #[tk t0 t1 t2 t3,.nilIface]):=he
   have HF:=Aside0.mk hTc
   clear hTc
   go_wp2_with fail
   obtain ⟨q0,q1,q2,q3⟩:=res4a E0.out (.int .i64 t0) (.int .i64 t1) (.int .i64 t2) (.string t3) (.cells #[.int .i64 t0,.int .i64 t1,.int .i64 t2,.string t3] 58)
   refine bodyPost_ret (v:=.tuple #[tk t0 t1 t2 t3,.nilIface]) (by simp [results,Tryz.results66,go_sem,q0,q1,q2,q3]) rfl ⟨by rw [HF.out];rfl,?_⟩
   refine Below.alloc (set4_below (HB1.out.trans (HX4.out.mono (by have:=HZ1.out;omega))) (Nat.le_refl _) _ _ _ _) (set4_below (HB1.out.trans (HX4.out.mono (by have:=HZ1.out;omega))) (Nat.le_refl _) _ _ _ _).size _
 | false=>
 have hnd:¬ (ch = 45 ∨ isDg ch = true):=by
  have h1:=Hdi.out
  rw [hb] at h1
  rw [isDg_iff]
  intro hx
  have:=HCHX.out (by omega)
  subst this
  simp only [Bool.false_eq,Bool.or_eq_false_iff,Bool.and_eq_false_iff,decide_eq_false_iff_not,beq_eq_false_iff_ne] at h1
  omega
 have hsay4:=HSAY3.out
 rw [if_neg hnd] at hsay4
 have HSAY4:=Aside0.mk hsay4
 clear hnd hsay4 hb
 by_cases h34:cd = 34
 ·have b34:(cd == 34) = true:=by simp [h34]
  as_aux_lemma=>
  have hch34:ch = 34:=by rw [← HCDX.out (by omega)];exact h34
  obtain ⟨⟨x1,m1⟩,hrn1⟩:∃ r,r = rn s (q + 1):=⟨_,rfl⟩
  have hj1:=(rn_is s (q + 1) 34 (by omega) (by decide) (by decide)).1
  rw [← hrn1] at hj1
  have HRN1:=Aside0.mk hrn1
  obtain ⟨⟨x2,m2⟩,hrn2⟩:∃ r,r = rn s (q + 2):=⟨_,rfl⟩
  have hj2:=(rn_is s (q + 2) 34 (by omega) (by decide) (by decide)).1
  rw [← hrn2] at hj2
  have HRN2:=Aside0.mk hrn2
  have hst:st3 s q 34 34 34 = (x1 == 34 && x2 == 34):=by
   unfold st3
   rw [nx_bt hlt,← HCH.out,Bool.eq_iff_iff]
   simp only [Bool.and_eq_true,beq_iff_eq]
   rw [hj1,hj2]
   exact ⟨fun h=>⟨h.1.2,h.2⟩,fun h=>⟨⟨hch34,h.1⟩,h.2⟩⟩
  have HST:=Aside0.mk hst
  have HC34:=Aside0.mk hch34
  clear hrn1 hrn2 hj1 hj2 hst hch34 h34
  go_wp2_with fail
  obtain ⟨W3,hW3⟩:∃ W3,W3 = w3.alloc (.cells #[.int .i64 0,.int .i64 0,.int .i64 0,.string ⟨#[]⟩] 58):=⟨_,rfl⟩
  have HX3a:Aside0 (Below W1.heap.size W1 W3):=⟨by rw [hW3];exact HX3.out.alloc HX3.out.size _⟩
  have HE3:Aside0 (W3.heap[w3.heap.size]? = some (.cells #[.int .i64 0,.int .i64 0,.int .i64 0,.string ⟨#[]⟩] 58 (0,0))):=⟨by rw [hW3];exact heap_alloc_new _ _⟩
  have HZ3:Aside0 (W3.heap.size = w3.heap.size + 1):=⟨by rw [hW3];simp⟩
  rw [← hW3]
  clear hW3
  obtain ⟨t3,ht3⟩:∃ t,t = w3.heap.size:=⟨_,rfl⟩
  rw [← ht3]
  have HT3:Aside0 (t3 = w3.heap.size):=⟨ht3⟩
  have HE3:Aside0 (W3.heap[t3]? = some (.cells #[.int .i64 0,.int .i64 0,.int .i64 0,.string ⟨#[]⟩] 58 (0,0))):=⟨by rw [ht3];exact HE3.out⟩
  clear ht3
  refine (runeAt_any s b c (q + 1) _ (HS1.out.below HX3a.out) hs (by omega) (by omega)).mono ?_
  rintro e w4 ⟨rfl,hb4⟩
  rw [← HRN1.out]
  have HY4:Aside0 (Below W3.heap.size W3 w4):=⟨hb4⟩
  have HX4:Aside0 (Below W1.heap.size W1 w4):=⟨HX3a.out.trans (hb4.mono (by have:=HZ3.out;have:=HX3.out.size;omega))⟩
  clear hb4
  go_wp2_with fail
  refine (runeAt_any s b c (q + 2) _ (HS1.out.below HX4.out) hs (by omega) (by omega)).mono ?_
  rintro e w5 ⟨rfl,hb5⟩
  rw [← HRN2.out]
  have HY5:Aside0 (Below W3.heap.size W3 w5):=⟨below_then HY4.out HY4.out.size hb5⟩
  have HX5:Aside0 (Below W1.heap.size W1 w5):=⟨below_then HX4.out HX4.out.size hb5⟩
  clear hb5
  have STR:(x1 == 34 && x2 == 34) = false → ∃ Rt,txt s (s.size + 1) (q + 1) ⟨#[]⟩ false = (Rt,false) ∧ T = strTok q Rt:=by
   intro hx
   have h:=HSAY4.out
   rw [if_neg (by rw [HST.out,hx];simp),if_pos HC34.out] at h
   obtain ⟨r,hr⟩:∃ r,r = txt s (s.size + 1) (q + 1) ⟨#[]⟩ false:=⟨_,rfl⟩
   rw [← hr] at h ⊢
   obtain ⟨a,u⟩:=r
   cases a with
   | none=>
    have h:(Stp.bad q u).says q R:=h
    exact ⟨none,by rw [h.2],by rw [HT.out,h.1];rfl⟩
   | some y=>
    have h:(Stp.tok 18 y.2 y.1 u).says q R:=h
    exact ⟨some y,by rw [h.2],by rw [HT.out,h.1];rfl⟩
  have HSTR:=Aside0.mk STR
  clear STR
  by_cases e1:x1 = 34
  ·have b1:(x1 == 34) = true:=by simp [e1]
   by_cases e2:x2 = 34
   ·have b2:(x2 == 34) = true:=by simp [e2]
    have hst:st3 s q 34 34 34 = true:=by rw [HST.out,b1,b2];rfl
    obtain ⟨Rb,hrb,hTb⟩:∃ Rb,blk s (s.size + 1) (q + 3) ⟨#[]⟩ false = (Rb,false) ∧ T = blkTok q Rb:=by
     have h:=HSAY4.out
     rw [if_pos hst] at h
     obtain ⟨r,hr⟩:∃ r,r = blk s (s.size + 1) (q + 3) ⟨#[]⟩ false:=⟨_,rfl⟩
     rw [← hr] at h ⊢
     obtain ⟨a,u⟩:=r
     cases a with
     | none=>
      have h:(Stp.bad q u).says q R:=h
      exact ⟨none,by rw [h.2],by rw [HT.out,h.1];rfl⟩
     | some y=>
      have h:(Stp.tok 19 (bvs y.2) y.1 (u || !plainB y.2)).says q R:=h
      have hu:=h.2
      simp only [Bool.or_eq_false_iff,Bool.not_eq_false'] at hu
      have hsame:bvi y.2 = bvs y.2:=by unfold bvi bvs;rw [Bv.bv_same _ hu.2]
      exact ⟨some y,by rw [hu.1],by rw [HT.out,h.1];show _ = some (19,q,y.1,bvi y.2);rw [hsame];rfl⟩
    have h3:=st3_in hst (by decide)
    have HTS:=Aside0.mk hTb
    have HRB:=Aside0.mk hrb
    clear hst hTb hrb e1 e2
    go_wp2_with fail
    refine (readBlock_any s g b c q Rb _ (HS1.out.below HX5.out) (PFnReadString.old_cell HX5.out HG1.out) hs (by omega) h3 HRB.out).mono ?_
    rintro e w6 ⟨he,hb6⟩
    rw [← HTS.out] at he
    have HY6:Aside0 (Below W3.heap.size W3 w6):=⟨below_then HY5.out HY5.out.size hb6⟩
    have HX6:Aside0 (Below W1.heap.size W1 w6):=⟨HX3a.out.trans (HY6.out.mono (by have:=HZ3.out;have:=HX3.out.size;omega))⟩
    clear hb6
    have HE6:Aside0 (w6.heap[w.heap.size]? = some (.cells #[.int .i64 0,.int .i64 0,.int .i64 0,.string ⟨#[]⟩] 58 (0,0))):=⟨(HX6.out.block _ (by have:=HZ1.out;omega)).trans HE1.out⟩
    have e0:w6.heap[t3]? = some (.cells #[.int .i64 0,.int .i64 0,.int .i64 0,.string ⟨#[]⟩] 58 (0,0)):=(HY6.out.block _ (by have:=HZ3.out;have:=HT3.out;omega)).trans HE3.out
    have i0:=(blk_cell e0 0).trans rfl
    have i1:=(blk_cell e0 1).trans rfl
    have i2:=(blk_cell e0 2).trans rfl
    have i3:=(blk_cell e0 3).trans rfl
    have j0:=fun j=>blk_frozen e0 j
    have HE0:=Aside0.mk e0
    clear e0
    have HLT:Aside0 (w.heap.size < t3):=⟨by have:=HX3.out.size;have:=HZ1.out;have:=HT3.out;omega⟩
    rcases hTc:T with _ | ⟨t0,t1,t2,tv⟩
    ·rw [hTc] at he
     obtain ⟨q9,rfl⟩:=he
     have HF:=Aside0.mk hTc
     clear hTc
     dsimp only
     rename_i hk
     refine hk _ _ ?_
     clear hk
     iterate 18 go_step
     obtain ⟨W7,hW7⟩:∃ W7,W7 = ((((w6.setCell ⟨t3,0,none⟩ (.int .i64 0)).setCell ⟨t3,1,none⟩ (.int .i64 0)).setCell ⟨t3,2,none⟩ (.int .i64 0)).setCell ⟨t3,3,none⟩ (.string ⟨#[]⟩)):=⟨_,rfl⟩
     rw [← hW7]
     have e7:W7.heap[w.heap.size]? = some (.cells #[.int .i64 0,.int .i64 0,.int .i64 0,.string ⟨#[]⟩] 58 (0,0)):=by
      have hz2:¬ w.heap.size = t3:=by have:=HLT.out;omega
      rw [hW7]
      exact blk_far (blk_far (blk_far (blk_far HE6.out (p:=⟨t3,0,none⟩) hz2 _) (p:=⟨t3,1,none⟩) hz2 _) (p:=⟨t3,2,none⟩) hz2 _) (p:=⟨t3,3,none⟩) hz2 _
     have e8:W7.heap[t3]? = some (.cells #[.int .i64 0,.int .i64 0,.int .i64 0,.string ⟨#[]⟩] 58 (0,0)):=by
      rw [hW7]
      exact blk_set (blk_set (blk_set (blk_set HE0.out 0 _) 1 _) 2 _) 3 _
     have HB7:Aside0 (Below w.heap.size w W7):=⟨by
      rw [hW7]
      exact set4_below (HB1.out.trans (HX6.out.mono (by have:=HZ1.out;omega))) (by have:=HLT.out;omega) _ _ _ _⟩
     clear i0 i1 i2 i3 j0 hW7
     have d0:=(blk_cell e7 0).trans rfl
     have d1:=(blk_cell e7 1).trans rfl
     have d2:=(blk_cell e7 2).trans rfl
     have d3:=(blk_cell e7 3).trans rfl
     have f0:=fun j=>blk_frozen e7 j
     have i0:=(blk_cell e8 0).trans rfl
     have i1:=(blk_cell e8 1).trans rfl
     have i2:=(blk_cell e8 2).trans rfl
     have i3:=(blk_cell e8 3).trans rfl
     have E0:=Aside0.mk e7
     clear e7 e8
     go_wp2_with fail
     obtain ⟨q0,q1,q2,q3⟩:=res4 E0.out (.int .i64 0) (.int .i64 0) (.int .i64 0) (.string ⟨#[]⟩)
     refine bodyPost_ret (v:=.tuple #[tk 0 0 0 ⟨#[]⟩,.iface 182 (.pointer (some ⟨q9,0,none⟩))]) (by simp [results,Tryz.results66,go_sem,q0,q1,q2,q3]) rfl ⟨by rw [HF.out];exact ⟨q9,rfl⟩,?_⟩
     exact set4_below HB7.out (Nat.le_refl _) _ _ _ _
    ·rw [hTc] at he
     obtain rfl:e = .returned (.tuple #[tk t0 t1 t2 tv,.nilIface]):=he
     have HF:=Aside0.mk hTc
     clear hTc
     dsimp only
     rename_i hk
     refine hk _ _ ?_
     clear hk
     iterate 18 go_step
     obtain ⟨W7,hW7⟩:∃ W7,W7 = ((((w6.setCell ⟨t3,0,none⟩ (.int .i64 t0)).setCell ⟨t3,1,none⟩ (.int .i64 t1)).setCell ⟨t3,2,none⟩ (.int .i64 t2)).setCell ⟨t3,3,none⟩ (.string tv)):=⟨_,rfl⟩
     rw [← hW7]
     have e7:W7.heap[w.heap.size]? = some (.cells #[.int .i64 0,.int .i64 0,.int .i64 0,.string ⟨#[]⟩] 58 (0,0)):=by
      have hz2:¬ w.heap.size = t3:=by have:=HLT.out;omega
      rw [hW7]
      exact blk_far (blk_far (blk_far (blk_far HE6.out (p:=⟨t3,0,none⟩) hz2 _) (p:=⟨t3,1,none⟩) hz2 _) (p:=⟨t3,2,none⟩) hz2 _) (p:=⟨t3,3,none⟩) hz2 _
     have e8:W7.heap[t3]? = some (.cells #[.int .i64 t0,.int .i64 t1,.int .i64 t2,.string tv] 58 (0,0)):=by
      rw [hW7]
      exact blk_set (blk_set (blk_set (blk_set HE0.out 0 _) 1 _) 2 _) 3 _
     have HB7:Aside0 (Below w.heap.size w W7):=⟨by
      rw [hW7]
      exact set4_below (HB1.out.trans (HX6.out.mono (by have:=HZ1.out;omega))) (by have:=HLT.out;omega) _ _ _ _⟩
     clear i0 i1 i2 i3 j0 hW7
     have d0:=(blk_cell e7 0).trans rfl
     have d1:=(blk_cell e7 1).trans rfl
     have d2:=(blk_cell e7 2).trans rfl
     have d3:=(blk_cell e7 3).trans rfl
     have f0:=fun j=>blk_frozen e7 j
     have i0:=(blk_cell e8 0).trans rfl
     have i1:=(blk_cell e8 1).trans rfl
     have i2:=(blk_cell e8 2).trans rfl
     have i3:=(blk_cell e8 3).trans rfl
     have E0:=Aside0.mk e7
     clear e7 e8
     go_wp2_with fail
     obtain ⟨q0,q1,q2,q3⟩:=res4 E0.out (.int .i64 t0) (.int .i64 t1) (.int .i64 t2) (.string tv)
     refine bodyPost_ret (v:=.tuple #[tk t0 t1 t2 tv,.nilIface]) (by simp [results,Tryz.results66,go_sem,q0,q1,q2,q3]) rfl ⟨by rw [HF.out];exact rfl,?_⟩
     exact set4_below HB7.out (Nat.le_refl _) _ _ _ _
   ·have b2:(x2 == 34) = false:=by simp [e2]
    obtain ⟨Rt,hrt,hTt⟩:=HSTR.out (by rw [b1,b2];rfl)
    have HTS:=Aside0.mk hTt
    have HRT:=Aside0.mk hrt
    clear hrt hTt e1 e2
    go_wp2_with fail
    refine (readString_any s g b c q Rt _ (HS1.out.below HX5.out) (PFnReadString.old_cell HX5.out HG1.out) hs (by omega) hlt HRT.out).mono ?_
    rintro e w6 ⟨he,hb6⟩
    rw [← HTS.out] at he
    have HY6:Aside0 (Below W3.heap.size W3 w6):=⟨below_then HY5.out HY5.out.size hb6⟩
    have HX6:Aside0 (Below W1.heap.size W1 w6):=⟨HX3a.out.trans (HY6.out.mono (by have:=HZ3.out;have:=HX3.out.size;omega))⟩
    clear hb6
    have HE6:Aside0 (w6.heap[w.heap.size]? = some (.cells #[.int .i64 0,.int .i64 0,.int .i64 0,.string ⟨#[]⟩] 58 (0,0))):=⟨(HX6.out.block _ (by have:=HZ1.out;omega)).trans HE1.out⟩
    have e0:w6.heap[t3]? = some (.cells #[.int .i64 0,.int .i64 0,.int .i64 0,.string ⟨#[]⟩] 58 (0,0)):=(HY6.out.block _ (by have:=HZ3.out;have:=HT3.out;omega)).trans HE3.out
    have i0:=(blk_cell e0 0).trans rfl
    have i1:=(blk_cell e0 1).trans rfl
    have i2:=(blk_cell e0 2).trans rfl
    have i3:=(blk_cell e0 3).trans rfl
    have j0:=fun j=>blk_frozen e0 j
    have HE0:=Aside0.mk e0
    clear e0
    have HLT:Aside0 (w.heap.size < t3):=⟨by have:=HX3.out.size;have:=HZ1.out;have:=HT3.out;omega⟩
    rcases hTc:T with _ | ⟨t0,t1,t2,tv⟩
    ·rw [hTc] at he
     obtain ⟨q9,rfl⟩:=he
     have HF:=Aside0.mk hTc
     clear hTc
     dsimp only
     rename_i hk
     refine hk _ _ ?_
     clear hk
     iterate 18 go_step
     obtain ⟨W7,hW7⟩:∃ W7,W7 = ((((w6.setCell ⟨t3,0,none⟩ (.int .i64 0)).setCell ⟨t3,1,none⟩ (.int .i64 0)).setCell ⟨t3,2,none⟩ (.int .i64 0)).setCell ⟨t3,3,none⟩ (.string ⟨#[]⟩)):=⟨_,rfl⟩
     rw [← hW7]
     have e7:W7.heap[w.heap.size]? = some (.cells #[.int .i64 0,.int .i64 0,.int .i64 0,.string ⟨#[]⟩] 58 (0,0)):=by
      have hz2:¬ w.heap.size = t3:=by have:=HLT.out;omega
      rw [hW7]
      exact blk_far (blk_far (blk_far (blk_far HE6.out (p:=⟨t3,0,none⟩) hz2 _) (p:=⟨t3,1,none⟩) hz2 _) (p:=⟨t3,2,none⟩) hz2 _) (p:=⟨t3,3,none⟩) hz2 _
     have e8:W7.heap[t3]? = some (.cells #[.int .i64 0,.int .i64 0,.int .i64 0,.string ⟨#[]⟩] 58 (0,0)):=by
      rw [hW7]
      exact blk_set (blk_set (blk_set (blk_set HE0.out 0 _) 1 _) 2 _) 3 _
     have HB7:Aside0 (Below w.heap.size w W7):=⟨by
      rw [hW7]
      exact set4_below (HB1.out.trans (HX6.out.mono (by have:=HZ1.out;omega))) (by have:=HLT.out;omega) _ _ _ _⟩
     clear i0 i1 i2 i3 j0 hW7
     have d0:=(blk_cell e7 0).trans rfl
     have d1:=(blk_cell e7 1).trans rfl
     have d2:=(blk_cell e7 2).trans rfl
     have d3:=(blk_cell e7 3).trans rfl
     have f0:=fun j=>blk_frozen e7 j
     have i0:=(blk_cell e8 0).trans rfl
     have i1:=(blk_cell e8 1).trans rfl
     have i2:=(blk_cell e8 2).trans rfl
     have i3:=(blk_cell e8 3).trans rfl
     have E0:=Aside0.mk e7
     clear e7 e8
     go_wp2_with fail
     obtain ⟨q0,q1,q2,q3⟩:=res4 E0.out (.int .i64 0) (.int .i64 0) (.int .i64 0) (.string ⟨#[]⟩)
     refine bodyPost_ret (v:=.tuple #[tk 0 0 0 ⟨#[]⟩,.iface 182 (.pointer (some ⟨q9,0,none⟩))]) (by simp [results,Tryz.results66,go_sem,q0,q1,q2,q3]) rfl ⟨by rw [HF.out];exact ⟨q9,rfl⟩,?_⟩
     exact set4_below HB7.out (Nat.le_refl _) _ _ _ _
    ·rw [hTc] at he
     obtain rfl:e = .returned (.tuple #[tk t0 t1 t2 tv,.nilIface]):=he
     have HF:=Aside0.mk hTc
     clear hTc
     dsimp only
     rename_i hk
     refine hk _ _ ?_
     clear hk
     iterate 18 go_step
     obtain ⟨W7,hW7⟩:∃ W7,W7 = ((((w6.setCell ⟨t3,0,none⟩ (.int .i64 t0)).setCell ⟨t3,1,none⟩ (.int .i64 t1)).setCell ⟨t3,2,none⟩ (.int .i64 t2)).setCell ⟨t3,3,none⟩ (.string tv)):=⟨_,rfl⟩
     rw [← hW7]
     have e7:W7.heap[w.heap.size]? = some (.cells #[.int .i64 0,.int .i64 0,.int .i64 0,.string ⟨#[]⟩] 58 (0,0)):=by
      have hz2:¬ w.heap.size = t3:=by have:=HLT.out;omega
      rw [hW7]
      exact blk_far (blk_far (blk_far (blk_far HE6.out (p:=⟨t3,0,none⟩) hz2 _) (p:=⟨t3,1,none⟩) hz2 _) (p:=⟨t3,2,none⟩) hz2 _) (p:=⟨t3,3,none⟩) hz2 _
     have e8:W7.heap[t3]? = some (.cells #[.int .i64 t0,.int .i64 t1,.int .i64 t2,.string tv] 58 (0,0)):=by
      rw [hW7]
      exact blk_set (blk_set (blk_set (blk_set HE0.out 0 _) 1 _) 2 _) 3 _
     have HB7:Aside0 (Below w.heap.size w W7):=⟨by
      rw [hW7]
      exact set4_below (HB1.out.trans (HX6.out.mono (by have:=HZ1.out;omega))) (by have:=HLT.out;omega) _ _ _ _⟩
     clear i0 i1 i2 i3 j0 hW7
     have d0:=(blk_cell e7 0).trans rfl
     have d1:=(blk_cell e7 1).trans rfl
     have d2:=(blk_cell e7 2).trans rfl
     have d3:=(blk_cell e7 3).trans rfl
     have f0:=fun j=>blk_frozen e7 j
     have i0:=(blk_cell e8 0).trans rfl
     have i1:=(blk_cell e8 1).trans rfl
     have i2:=(blk_cell e8 2).trans rfl
     have i3:=(blk_cell e8 3).trans rfl
     have E0:=Aside0.mk e7
     clear e7 e8
     go_wp2_with fail
     obtain ⟨q0,q1,q2,q3⟩:=res4 E0.out (.int .i64 t0) (.int .i64 t1) (.int .i64 t2) (.string tv)
     refine bodyPost_ret (v:=.tuple #[tk t0 t1 t2 tv,.nilIface]) (by simp [results,Tryz.results66,go_sem,q0,q1,q2,q3]) rfl ⟨by rw [HF.out];exact rfl,?_⟩
     exact set4_below HB7.out (Nat.le_refl _) _ _ _ _
  ·have b1:(x1 == 34) = false:=by simp [e1]
   obtain ⟨Rt,hrt,hTt⟩:=HSTR.out (by rw [b1];rfl)
   have HTS:=Aside0.mk hTt
   have HRT:=Aside0.mk hrt
   clear hrt hTt e1
   go_wp2_with fail
   refine (readString_any s g b c q Rt _ (HS1.out.below HX5.out) (PFnReadString.old_cell HX5.out HG1.out) hs (by omega) hlt HRT.out).mono ?_
   rintro e w6 ⟨he,hb6⟩
   rw [← HTS.out] at he
   have HY6:Aside0 (Below W3.heap.size W3 w6):=⟨below_then HY5.out HY5.out.size hb6⟩
   have HX6:Aside0 (Below W1.heap.size W1 w6):=⟨HX3a.out.trans (HY6.out.mono (by have:=HZ3.out;have:=HX3.out.size;omega))⟩
   clear hb6
   have HE6:Aside0 (w6.heap[w.heap.size]? = some (.cells #[.int .i64 0,.int .i64 0,.int .i64 0,.string ⟨#[]⟩] 58 (0,0))):=⟨(HX6.out.block _ (by have:=HZ1.out;omega)).trans HE1.out⟩
   have e0:w6.heap[t3]? = some (.cells #[.int .i64 0,.int .i64 0,.int .i64 0,.string ⟨#[]⟩] 58 (0,0)):=(HY6.out.block _ (by have:=HZ3.out;have:=HT3.out;omega)).trans HE3.out
   have i0:=(blk_cell e0 0).trans rfl
   have i1:=(blk_cell e0 1).trans rfl
   have i2:=(blk_cell e0 2).trans rfl
   have i3:=(blk_cell e0 3).trans rfl
   have j0:=fun j=>blk_frozen e0 j
   have HE0:=Aside0.mk e0
   clear e0
   have HLT:Aside0 (w.heap.size < t3):=⟨by have:=HX3.out.size;have:=HZ1.out;have:=HT3.out;omega⟩
   rcases hTc:T with _ | ⟨t0,t1,t2,tv⟩
   ·rw [hTc] at he
    obtain ⟨q9,rfl⟩:=he
    have HF:=Aside0.mk hTc
    clear hTc
    dsimp only
    rename_i hk
    refine hk _ _ ?_
    clear hk
    iterate 18 go_step
    obtain ⟨W7,hW7⟩:∃ W7,W7 = ((((w6.setCell ⟨t3,0,none⟩ (.int .i64 0)).setCell ⟨t3,1,none⟩ (.int .i64 0)).setCell ⟨t3,2,none⟩ (.int .i64 0)).setCell ⟨t3,3,none⟩ (.string ⟨#[]⟩)):=⟨_,rfl⟩
    rw [← hW7]
    have e7:W7.heap[w.heap.size]? = some (.cells #[.int .i64 0,.int .i64 0,.int .i64 0,.string ⟨#[]⟩] 58 (0,0)):=by
     have hz2:¬ w.heap.size = t3:=by have:=HLT.out;omega
     rw [hW7]
     exact blk_far (blk_far (blk_far (blk_far HE6.out (p:=⟨t3,0,none⟩) hz2 _) (p:=⟨t3,1,none⟩) hz2 _) (p:=⟨t3,2,none⟩) hz2 _) (p:=⟨t3,3,none⟩) hz2 _
    have e8:W7.heap[t3]? = some (.cells #[.int .i64 0,.int .i64 0,.int .i64 0,.string ⟨#[]⟩] 58 (0,0)):=by
     rw [hW7]
     exact blk_set (blk_set (blk_set (blk_set HE0.out 0 _) 1 _) 2 _) 3 _
    have HB7:Aside0 (Below w.heap.size w W7):=⟨by
     rw [hW7]
     exact set4_below (HB1.out.trans (HX6.out.mono (by have:=HZ1.out;omega))) (by have:=HLT.out;omega) _ _ _ _⟩
    clear i0 i1 i2 i3 j0 hW7
    have d0:=(blk_cell e7 0).trans rfl
    have d1:=(blk_cell e7 1).trans rfl
    have d2:=(blk_cell e7 2).trans rfl
    have d3:=(blk_cell e7 3).trans rfl
    have f0:=fun j=>blk_frozen e7 j
    have i0:=(blk_cell e8 0).trans rfl
    have i1:=(blk_cell e8 1).trans rfl
    have i2:=(blk_cell e8 2).trans rfl
    have i3:=(blk_cell e8 3).trans rfl
    have E0:=Aside0.mk e7
    clear e7 e8
    go_wp2_with fail
    obtain ⟨q0,q1,q2,q3⟩:=res4 E0.out (.int .i64 0) (.int .i64 0) (.int .i64 0) (.string ⟨#[]⟩)
    refine bodyPost_ret (v:=.tuple #[tk 0 0 0 ⟨#[]⟩,.iface 182 (.pointer (some ⟨q9,0,none⟩))]) (by simp [results,Tryz.results66,go_sem,q0,q1,q2,q3]) rfl ⟨by rw [HF.out];exact ⟨q9,rfl⟩,?_⟩
    exact set4_below HB7.out (Nat.le_refl _) _ _ _ _
   ·rw [hTc] at he
    obtain rfl:e = .returned (.tuple #[tk t0 t1 t2 tv,.nilIface]):=he
    have HF:=Aside0.mk hTc
    clear hTc
    dsimp only
    rename_i hk
    refine hk _ _ ?_
    clear hk
    iterate 18 go_step
    obtain ⟨W7,hW7⟩:∃ W7,W7 = ((((w6.setCell ⟨t3,0,none⟩ (.int .i64 t0)).setCell ⟨t3,1,none⟩ (.int .i64 t1)).setCell ⟨t3,2,none⟩ (.int .i64 t2)).setCell ⟨t3,3,none⟩ (.string tv)):=⟨_,rfl⟩
    rw [← hW7]
    have e7:W7.heap[w.heap.size]? = some (.cells #[.int .i64 0,.int .i64 0,.int .i64 0,.string ⟨#[]⟩] 58 (0,0)):=by
     have hz2:¬ w.heap.size = t3:=by have:=HLT.out;omega
     rw [hW7]
     exact blk_far (blk_far (blk_far (blk_far HE6.out (p:=⟨t3,0,none⟩) hz2 _) (p:=⟨t3,1,none⟩) hz2 _) (p:=⟨t3,2,none⟩) hz2 _) (p:=⟨t3,3,none⟩) hz2 _
    have e8:W7.heap[t3]? = some (.cells #[.int .i64 t0,.int .i64 t1,.int .i64 t2,.string tv] 58 (0,0)):=by
     rw [hW7]
     exact blk_set (blk_set (blk_set (blk_set HE0.out 0 _) 1 _) 2 _) 3 _
    have HB7:Aside0 (Below w.heap.size w W7):=⟨by
     rw [hW7]
     exact set4_below (HB1.out.trans (HX6.out.mono (by have:=HZ1.out;omega))) (by have:=HLT.out;omega) _ _ _ _⟩
    clear i0 i1 i2 i3 j0 hW7
    have d0:=(blk_cell e7 0).trans rfl
    have d1:=(blk_cell e7 1).trans rfl
    have d2:=(blk_cell e7 2).trans rfl
    have d3:=(blk_cell e7 3).trans rfl
    have f0:=fun j=>blk_frozen e7 j
    have i0:=(blk_cell e8 0).trans rfl
    have i1:=(blk_cell e8 1).trans rfl
    have i2:=(blk_cell e8 2).trans rfl
    have i3:=(blk_cell e8 3).trans rfl
    have E0:=Aside0.mk e7
    clear e7 e8
    go_wp2_with fail
    obtain ⟨q0,q1,q2,q3⟩:=res4 E0.out (.int .i64 t0) (.int .i64 t1) (.int .i64 t2) (.string tv)
    refine bodyPost_ret (v:=.tuple #[tk t0 t1 t2 tv,.nilIface]) (by simp [results,Tryz.results66,go_sem,q0,q1,q2,q3]) rfl ⟨by rw [HF.out];exact rfl,?_⟩
    exact set4_below HB7.out (Nat.le_refl _) _ _ _ _
 ·have b34:(cd == 34) = false:=by simp [h34]
  have hf:T = none:=by
   have hne:ch ≠ 34:=fun h=>h34 (by rw [HCHX.out (by omega)];exact h)
   have h:=HSAY4.out
   have h4:st3 s q 34 34 34 = false:=by
    unfold st3
    rw [nx_bt hlt,← HCH.out,beq_eq_false_iff_ne.2 hne];rfl
   rw [if_neg (by simp [h4]),if_neg hne] at h
   rw [HT.out,h.1];rfl
  have HF:=Aside0.mk hf
  clear hf h34
  as_aux_lemma=>
  go_wp2_with fail
  refine (PFnReadString.synErr_any s g (some ⟨b,0,none⟩) c q _ _ (PFnReadString.old_cell HX3.out HG1.out) (HS1.out.below HX3.out).cells (HS1.out.below HX3.out).le hs (by omega) (by omega)).mono ?_
  rintro e w9 ⟨⟨q9,rfl⟩,hb9⟩
  have HX9:Aside0 (Below W1.heap.size W1 w9):=⟨below_then HX3.out HX3.out.size hb9⟩
  clear hb9
  have e0:w9.heap[w.heap.size]? = some (.cells #[.int .i64 0,.int .i64 0,.int .i64 0,.string ⟨#[]⟩] 58 (0,0)):=(HX9.out.block _ (by have:=HZ1.out;omega)).trans HE1.out
  have d0:=(blk_cell e0 0).trans rfl
  have d1:=(blk_cell e0 1).trans rfl
  have d2:=(blk_cell e0 2).trans rfl
  have d3:=(blk_cell e0 3).trans rfl
  have f0:=fun j=>blk_frozen e0 j
  have E0:=Aside0.mk e0
  clear e0
  go_wp2_with fail
  obtain ⟨q0,q1,q2,q3⟩:=res4 E0.out (.int .i64 0) (.int .i64 0) (.int .i64 0) (.string ⟨#[]⟩)
  refine bodyPost_ret (v:=.tuple #[tk 0 0 0 ⟨#[]⟩,.iface 182 (.pointer (some ⟨q9,0,none⟩))]) (by simp [results,Tryz.results66,go_sem,q0,q1,q2,q3]) rfl ⟨?_,?_⟩
  ·rw [HF.out]
   exact ⟨q9,rfl⟩
  ·exact set4_below (HB1.out.trans (HX9.out.mono (by have:=HZ1.out;omega))) (Nat.le_refl _) _ _ _ _
end Go.Proofs.YtbobbognjmofdaaGreatDoor.Lex
end
end
