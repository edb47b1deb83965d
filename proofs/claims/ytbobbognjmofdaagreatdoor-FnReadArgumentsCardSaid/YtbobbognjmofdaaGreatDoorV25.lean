import Derived.Test.YtbobbognjmofdaaGreatDoorV21
import Derived.Test.YtbobbognjmofdaaGreatDoorV22
import Derived.Test.YtbobbognjmofdaaGreatDoorV24
import Derived.Test.YtbobbognjmofdaaGreatDoorV18
section
namespace Go.Proofs.YtbobbognjmofdaaGreatDoor.Lex
open Go.RowKit Go.Proofs.YtbobbognjmofdaaGreatDoorW.PrintWords Go.Proofs.YtbobbognjmofdaaGreatDoorW.PrintLast Go.Proofs.YtbobbognjmofdaaGreatDoorW.PrintMore
open Go.Proofs.YtbobbognjmofdaaGreatDoor.Ptext
set_option linter.unusedVariables false
set_option linter.unusedSimpArgs false
set_option maxRecDepth 8000 in
set_option maxHeartbeats 1500000 in
theorem here_leaf (base g:Nat) (l:List S24) (n:Nat) (x:PS) (w:World) (h:Px w base g l x) (ho:x.ok l) (hd0:-1000 ≤ x.deep) (hd1:x.deep ≤ 1000) (hb:base ≤ w.heap.size) (hn:n ≤ 2000) (h10:kd l x.at_ ≠ 10) (h12:kd l x.at_ ≠ 12) (h15:kd l x.at_ ≠ 15)
  (IH:∀ (y:PS) (W:World),Px W base g l y → y.ok l → y.deep = x.deep → base ≤ W.heap.size → Calls Tryz.prog 45 #[.pointer (some ⟨g,0,none⟩),.bool false] W (Reads base g l (vald n l y) W)) :
  Calls Tryz.prog 80 #[.pointer (some ⟨g,0,none⟩),.bool false] w (Reads base g l (valH (vald n l) l x) w):=by
 have HX:=Aside0.mk h
 have HO:=Aside0.mk ho
 have HIH:=Aside0.mk IH
 have hg:=h.lt
 obtain ⟨A,c,hc,hC,c0,c1,c2,c3,c4,c5,fz⟩:=h.cells
 have HC:=Aside0.mk hC
 have ho0:=ho.a0
 have ho1:=ho.a1
 have ho2:=ho.ll
 have HF:=Aside0.mk (fun W h=>pfail_any base g l x W h)
 obtain ⟨xa,xd,xw,xb,xu⟩:=x
 dsimp only at c1 c2 c3 c4 c5 ho0 ho1 hd0 hd1
 clear h ho IH hC c2 c3 c5
 by_cases hlt:xa < (l.length:Int)
 ·have hbb:decide (xa ≥ (l.length:Int)) = false:=decide_eq_false (by omega)
  obtain ⟨ad,rfl,p0,p1,p2,p3⟩:=at_T24 HC.out xa ho0 hlt
  obtain ⟨t,ht⟩:∃ t,t = rd_T24 l xa:=⟨_,rfl⟩
  have hV:valH (vald n l) l ⟨xa,xd,xw,xb,xu⟩ = valT (vald n l) l t ⟨xa,xd,xw,xb,xu⟩:=by unfold valH;rw [if_pos hlt,ht]
  rw [hV]
  have hkd:kd l xa = t.f0:=by rw [ht];unfold kd;rw [if_pos hlt]
  rw [← ht] at p0 p1 p2 p3
  have hin:xa.toNat < l.length:=by omega
  clear ht hV
  go_enter Tryz.func80,Tryz.ntmps80
  go_wp2_with fail
  go_quiet (fail)
  obtain ⟨wq,hwq⟩:∃ wq,wq = w.drewN nq:=⟨_,rfl⟩
  rw [← hwq]
  have hBq:Below w.heap.size w wq:=by rw [hwq];exact pw_below_drewN (Below.refl _ _) _
  have hsz:w.heap.size ≤ wq.heap.size:=hBq.size
  have c0q:=pw_cell_below hBq c0
  have c1q:=pw_cell_below hBq c1
  have p0q:=pw_cell_below hBq p0
  have p1q:=pw_cell_below hBq p1
  have p2q:=pw_cell_below hBq p2
  have p3q:=pw_cell_below hBq p3
  have hgq:g < wq.heap.size:=by omega
  have hadq:=World.block_lt_of_cell? wq _ p0q
  clear c0 c1 p0 p1 p2 p3
  have HBQ:=Aside0.mk hBq
  clear hBq hwq
  go_upto_region 3 with fail
  go_region
  obtain ⟨t0,t1,t2,t3⟩:=t
  have hkd:kd l xa = t0:=hkd
  have h10:kd l xa ≠ 10:=h10
  have h12:kd l xa ≠ 12:=h12
  have h15:kd l xa ≠ 15:=h15
  rw [hkd] at h10 h12 h15
  clear hkd
  obtain ⟨k,hk⟩:∃ k,k = wq.heap.size:=⟨_,rfl⟩
  obtain ⟨wa,hwa⟩:∃ wa,wa = (wq.alloc (.cells #[.int .i64 t0,.string t1,.int .i64 t2,.int .i64 t3] 24)).drew:=⟨_,rfl⟩
  have hEa:wa.heap[k]? = some (.cells #[.int .i64 t0,.string t1,.int .i64 t2,.int .i64 t3] 24 (0,0)):=by rw [hwa,hk];exact blk_new _ _
  have hBa:Below w.heap.size w wa:=by rw [hwa];exact below_drew (below_then HBQ.out hsz (below_alloc (Below.refl _ _) _))
  dsimp only
  rw [← hwa,← hk]
  have hgk:g ≠ k:=by omega
  have a0:=(blk_cell hEa 0).trans rfl
  have a1:=(blk_cell hEa 1).trans rfl
  have HXa:=Aside0.mk (HX.out.below hBa)
  have HGa:Aside0 (w.grownBy wa (some g)):=⟨grw_below hBa⟩
  have HEa:=Aside0.mk hEa
  obtain ⟨A2,cc2,-,-,d0,d1,d2,d3,d4,d5,fz2⟩:=HXa.out.cells
  dsimp only at d1 d2 d3 d4 d5
  have hga:g < wa.heap.size:=HXa.out.lt
  have hka:=blk_lt hEa
  have hsa:w.heap.size ≤ wa.heap.size:=hBa.size
  clear c0q c1q p0q p1q p2q p3q hgq hadq hwa hEa hBa fz c4 hsz HBQ hk d0 d2 d3
  by_cases h3:t0 = 3
  ·subst h3
   have hV:valT (vald n l) l ⟨3,t1,t2,t3⟩ ⟨xa,xd,xw,xb,xu⟩ = (made (nd 11 ((PS.mk (xa + 1) xd xw xb xu).named l).1) [],((PS.mk (xa + 1) xd xw xb xu).named l).2):=rfl
   have hX2:=Aside0.mk (HXa.out.set1 (xa + 1))
   have hG2:=Aside0.mk (grw_set HGa.out 1 (.int .i64 (xa + 1)))
   have hw1:IntKind.i64.wrap (xa + 1) = xa + 1:=by rw [i64_w];unfold wrap64;omega
   have HN:=Aside0.mk (pname_any base g l ⟨xa + 1,xd,xw,xb,xu⟩ _ hX2.out (HO.out.next hlt))
   obtain ⟨r,hr⟩:∃ r,r = (PS.mk (xa + 1) xd xw xb xu).named l:=⟨_,rfl⟩
   rw [← hr] at HN hV
   have HV:=Aside0.mk hV
   have HM:=Aside0.mk (fun W=>made_any (nd 11 r.1) [] none 0 W (kids_none W) (by simp) (by simp))
   clear hV hr
   go_wp2_with fail
   refine HN.out.mono ?_
   rintro e w4 ⟨rfl,hX4,hG4⟩
   have HX4:=Aside0.mk hX4
   have HG4:=Aside0.mk (grw_trans hG2.out hG4)
   have hb4:base ≤ w4.heap.size:=by have:=HG4.out.size;omega
   clear hX4 hG4
   go_wp2_with fail
   refine (HM.out _).mono ?_
   rintro e w5 ⟨⟨v5,rfl,hR5⟩,hB5⟩
   have hR5':=Aside0.mk (Kd.R_lower hR5 hb4)
   have hX5:=Aside0.mk (HX4.out.below hB5)
   have hG5:=Aside0.mk (grw_trans HG4.out (grw_below hB5))
   clear hR5 hB5
   go_wp2_with fail
   go_ret
   exact ⟨⟨_,rfl,by rw [HV.out];exact hR5'.out⟩,by rw [HV.out];exact hX5.out,hG5.out⟩
  by_cases h16:t0 = 16 ∨ t0 = 17
  ·have hV:valT (vald n l) l ⟨t0,t1,t2,t3⟩ ⟨xa,xd,xw,xb,xu⟩ = (made ⟨12 + t0 - 16,⟨#[]⟩,⟨#[]⟩,t1,0,0⟩ [],⟨xa + 1,xd,xw,xb,xu⟩):=by unfold valT;rw [if_neg h3,if_pos h16];rfl
   rw [hV]
   have HM:=Aside0.mk (fun W=>made_any ⟨12 + t0 - 16,⟨#[]⟩,⟨#[]⟩,t1,0,0⟩ [] none 0 W (kids_none W) (by simp) (by simp))
   have hX2:=Aside0.mk (HXa.out.set1 (xa + 1))
   have hG2:=Aside0.mk (grw_set HGa.out 1 (.int .i64 (xa + 1)))
   have hs2:(wa.setCell ⟨g,1,none⟩ (.int .i64 (xa + 1))).heap.size = wa.heap.size:=by simp
   have hw1:IntKind.i64.wrap (xa + 1) = xa + 1:=by rw [i64_w];unfold wrap64;omega
   have hb2:base ≤ wa.heap.size:=by omega
   clear hV h3
   rcases h16 with rfl | rfl
   all_goals
    go_wp2_with fail
    refine (HM.out _).mono ?_
    rintro e w5 ⟨⟨v5,rfl,hR5⟩,hB5⟩
    have hR5':=Aside0.mk (Kd.R_lower hR5 (by rw [hs2];exact hb2))
    have hX5:=Aside0.mk (hX2.out.below hB5)
    have hG5:=Aside0.mk (grw_trans hG2.out (grw_below hB5))
    clear hR5 hB5
    go_wp2_with fail
    go_ret
    exact ⟨⟨_,rfl,hR5'.out⟩,hX5.out,hG5.out⟩
  have hX2:=Aside0.mk (HXa.out.set1 (xa + 1))
  have hG2:=Aside0.mk (grw_set HGa.out 1 (.int .i64 (xa + 1)))
  have hs2:(wa.setCell ⟨g,1,none⟩ (.int .i64 (xa + 1))).heap.size = wa.heap.size:=by simp
  have hw1:IntKind.i64.wrap (xa + 1) = xa + 1:=by rw [i64_w];unfold wrap64;omega
  have hb2:base ≤ wa.heap.size:=by omega
  by_cases h18:t0 = 18 ∨ t0 = 19
  ·have hV:valT (vald n l) l ⟨t0,t1,t2,t3⟩ ⟨xa,xd,xw,xb,xu⟩ = (made ⟨14,⟨#[]⟩,⟨#[]⟩,t1,t0 - 18,0⟩ [],⟨xa + 1,xd,xw,xb,xu⟩):=by unfold valT;rw [if_neg h3,if_neg h16,if_pos h18];rfl
   rw [hV]
   have HM:=Aside0.mk (fun W=>made_any ⟨14,⟨#[]⟩,⟨#[]⟩,t1,t0 - 18,0⟩ [] none 0 W (kids_none W) (by simp) (by simp))
   clear hV h3 h16
   rcases h18 with rfl | rfl
   all_goals
    go_wp2_with fail
    refine (HM.out _).mono ?_
    rintro e w5 ⟨⟨v5,rfl,hR5⟩,hB5⟩
    have hR5':=Aside0.mk (Kd.R_lower hR5 (by rw [hs2];exact hb2))
    have hX5:=Aside0.mk (hX2.out.below hB5)
    have hG5:=Aside0.mk (grw_trans hG2.out (grw_below hB5))
    clear hR5 hB5
    go_wp2_with fail
    go_ret
    exact ⟨⟨_,rfl,hR5'.out⟩,hX5.out,hG5.out⟩
  have HV:Aside0 (valT (vald n l) l ⟨t0,t1,t2,t3⟩ ⟨xa,xd,xw,xb,xu⟩ = ([],PS.failed ⟨xa,xd,xw,xb,xu⟩)):=⟨by unfold valT;rw [if_neg h3,if_neg h16,if_neg h18,if_neg h15,if_neg h10,if_neg h12]⟩
  have b3:(t0 == 3) = false:=by simpa using h3
  have b16:(t0 == 16) = false:=by simpa using fun e=>h16 (.inl e)
  have b17:(t0 == 17) = false:=by simpa using fun e=>h16 (.inr e)
  have b18:(t0 == 18) = false:=by simpa using fun e=>h18 (.inl e)
  have b19:(t0 == 19) = false:=by simpa using fun e=>h18 (.inr e)
  have b15:(t0 == 15) = false:=by simpa using h15
  have b10:(t0 == 10) = false:=by simpa using h10
  have b12:(t0 == 12) = false:=by simpa using h12
  clear h3 h16 h18 h15 h10 h12 hX2 hG2 hs2
  go_wp2_with fail
  refine (HF.out _ HXa.out).mono ?_
  rintro e w5 ⟨rfl,hX5,hG5⟩
  have HX5:=Aside0.mk hX5
  have HG5:=Aside0.mk (grw_trans HGa.out hG5)
  clear hX5 hG5
  go_wp2_with fail
  go_ret
  exact ⟨⟨_,rfl,by rw [HV.out];exact Kd.R_nil _ _ _ _ _⟩,by rw [HV.out];exact HX5.out,HG5.out⟩
 ·have hbb:decide (xa ≥ (l.length:Int)) = true:=decide_eq_true (by omega)
  have hV:valH (vald n l) l ⟨xa,xd,xw,xb,xu⟩ = ([],PS.failed ⟨xa,xd,xw,xb,xu⟩):=by unfold valH;rw [if_neg hlt]
  rw [hV]
  clear hV
  go_enter Tryz.func80,Tryz.ntmps80
  go_wp2_with fail
  go_quiet (fail)
  go_wp2_with fail
  refine (HF.out _ (HX.out.drewN _)).mono ?_
  rintro e w1 ⟨rfl,hX1,hG1⟩
  have HX1:=Aside0.mk hX1
  have HG1:=Aside0.mk (grw_trans (grw_drewN g w _) hG1)
  clear hX1 hG1
  go_wp2_with fail
  go_ret
  exact ⟨⟨_,rfl,Kd.R_nil _ _ _ _ _⟩,HX1.out,HG1.out⟩
set_option maxRecDepth 8000 in
set_option maxHeartbeats 4000000 in
theorem here_list (base g:Nat) (l:List S24) (n:Nat) (x:PS) (w:World) (h:Px w base g l x) (ho:x.ok l) (hd0:-1000 ≤ x.deep) (hd1:x.deep ≤ 1000) (hb:base ≤ w.heap.size) (hn:n ≤ 2000) (hk1:kd l x.at_ = 10)
  (IH:∀ (y:PS) (W:World),Px W base g l y → y.ok l → y.deep = x.deep → base ≤ W.heap.size → Calls Tryz.prog 45 #[.pointer (some ⟨g,0,none⟩),.bool false] W (Reads base g l (vald n l y) W)) :
  Calls Tryz.prog 80 #[.pointer (some ⟨g,0,none⟩),.bool false] w (Reads base g l (valH (vald n l) l x) w):=by
 have HX:=Aside0.mk h
 have HO:=Aside0.mk ho
 have HIH:=Aside0.mk IH
 have hg:=h.lt
 obtain ⟨A,c,hc,hC,c0,c1,c2,c3,c4,c5,fz⟩:=h.cells
 have HC:=Aside0.mk hC
 have ho0:=ho.a0
 have ho1:=ho.a1
 have ho2:=ho.ll
 have HF:=Aside0.mk (fun W h=>pfail_any base g l x W h)
 obtain ⟨xa,xd,xw,xb,xu⟩:=x
 dsimp only at c1 c2 c3 c4 c5 ho0 ho1 hd0 hd1
 clear h ho IH hC c2 c3 c5
 by_cases hlt:xa < (l.length:Int)
 ·have hbb:decide (xa ≥ (l.length:Int)) = false:=decide_eq_false (by omega)
  obtain ⟨ad,rfl,p0,p1,p2,p3⟩:=at_T24 HC.out xa ho0 hlt
  obtain ⟨t,ht⟩:∃ t,t = rd_T24 l xa:=⟨_,rfl⟩
  have hV:valH (vald n l) l ⟨xa,xd,xw,xb,xu⟩ = valT (vald n l) l t ⟨xa,xd,xw,xb,xu⟩:=by unfold valH;rw [if_pos hlt,ht]
  rw [hV]
  have hkd:kd l xa = t.f0:=by rw [ht];unfold kd;rw [if_pos hlt]
  rw [← ht] at p0 p1 p2 p3
  have hin:xa.toNat < l.length:=by omega
  clear ht hV
  go_enter Tryz.func80,Tryz.ntmps80
  go_wp2_with fail
  go_quiet (fail)
  obtain ⟨wq,hwq⟩:∃ wq,wq = w.drewN nq:=⟨_,rfl⟩
  rw [← hwq]
  have hBq:Below w.heap.size w wq:=by rw [hwq];exact pw_below_drewN (Below.refl _ _) _
  have hsz:w.heap.size ≤ wq.heap.size:=hBq.size
  have c0q:=pw_cell_below hBq c0
  have c1q:=pw_cell_below hBq c1
  have p0q:=pw_cell_below hBq p0
  have p1q:=pw_cell_below hBq p1
  have p2q:=pw_cell_below hBq p2
  have p3q:=pw_cell_below hBq p3
  have hgq:g < wq.heap.size:=by omega
  have hadq:=World.block_lt_of_cell? wq _ p0q
  clear c0 c1 p0 p1 p2 p3
  have HBQ:=Aside0.mk hBq
  clear hBq hwq
  go_upto_region 3 with fail
  go_region
  obtain ⟨t0,t1,t2,t3⟩:=t
  obtain ⟨k,hk⟩:∃ k,k = wq.heap.size:=⟨_,rfl⟩
  obtain ⟨wa,hwa⟩:∃ wa,wa = (wq.alloc (.cells #[.int .i64 t0,.string t1,.int .i64 t2,.int .i64 t3] 24)).drew:=⟨_,rfl⟩
  have hEa:wa.heap[k]? = some (.cells #[.int .i64 t0,.string t1,.int .i64 t2,.int .i64 t3] 24 (0,0)):=by rw [hwa,hk];exact blk_new _ _
  have hBa:Below w.heap.size w wa:=by rw [hwa];exact below_drew (below_then HBQ.out hsz (below_alloc (Below.refl _ _) _))
  dsimp only
  rw [← hwa,← hk]
  have hgk:g ≠ k:=by omega
  have a0:=(blk_cell hEa 0).trans rfl
  have a1:=(blk_cell hEa 1).trans rfl
  have HXa:=Aside0.mk (HX.out.below hBa)
  have HGa:Aside0 (w.grownBy wa (some g)):=⟨grw_below hBa⟩
  have HEa:=Aside0.mk hEa
  obtain ⟨A2,cc2,-,-,d0,d1,d2,d3,d4,d5,fz2⟩:=HXa.out.cells
  dsimp only at d1 d2 d3 d4 d5
  have hga:g < wa.heap.size:=HXa.out.lt
  have hka:=blk_lt hEa
  have hsa:w.heap.size ≤ wa.heap.size:=hBa.size
  clear c0q c1q p0q p1q p2q p3q hgq hadq hwa hEa hBa fz c4 hsz HBQ hk d0 d2 d3
  obtain rfl:t0 = 10:=hkd.symm.trans hk1
  clear hkd hk1
  have hX2:=Aside0.mk (HXa.out.set1 (xa + 1))
  have hG2:=Aside0.mk (grw_set HGa.out 1 (.int .i64 (xa + 1)))
  have hs2:(wa.setCell ⟨g,1,none⟩ (.int .i64 (xa + 1))).heap.size = wa.heap.size:=by simp
  have hw1:IntKind.i64.wrap (xa + 1) = xa + 1:=by rw [i64_w];unfold wrap64;omega
  have hb2:base ≤ wa.heap.size:=by omega
  have HV:Aside0 (valT (vald n l) l ⟨10,t1,t2,t3⟩ ⟨xa,xd,xw,xb,xu⟩ = (made (nd 17 ⟨#[]⟩) (loopd 11 (vald n l) l 3001 ⟨xa + 1,xd,xw,xb,xu⟩ []).1,(loopd 11 (vald n l) l 3001 ⟨xa + 1,xd,xw,xb,xu⟩ []).2)):=⟨by unfold valT;rw [if_neg (show ¬ (10:Int) = 3 by decide),if_neg (show ¬ ((10:Int) = 16 ∨ (10:Int) = 17) by decide),if_neg (show ¬ ((10:Int) = 18 ∨ (10:Int) = 19) by decide),if_neg (show ¬ (10:Int) = 15 by decide),if_pos rfl];rfl⟩
  have hok1:PS.ok l ⟨xa + 1,xd,xw,xb,xu⟩:=HO.out.next hlt
  have hkp:=loopd_keeps (c:=11) (by decide) (vald_keeps l n) 3001 ⟨xa + 1,xd,xw,xb,xu⟩ [] hok1 (by show (l.length:Int) < xa + 1 + (3001:Nat);omega)
  obtain ⟨RR,hRR⟩:∃ RR,RR = loopd 11 (vald n l) l 3001 ⟨xa + 1,xd,xw,xb,xu⟩ []:=⟨_,rfl⟩
  rw [← hRR] at HV hkp
  have hfl:RR.1.flatten.length ≤ 1000000 ∧ RR.1.length ≤ 1000000:=by
   have q1:=hkp.l1
   have q2:=hkp.ok.a1
   have q3:=hkp.many
   have q4:(RR.1.flatten.length:Int) ≤ 0 + 3 * (RR.2.at_ - (xa + 1)) + (2 * n:Nat):=q1
   have q5:(RR.1.length:Int) ≤ 0 + (RR.2.at_ - (xa + 1)) + 1:=q3
   constructor <;> omega
  have HR0:Aside0 (Rnds base g l 11 (vald n l) RR xd w (wa.setCell ⟨g,1,none⟩ (.int .i64 (xa + 1))) (.slice none 0 0) 3001 ⟨xa + 1,xd,xw,xb,xu⟩ []):=⟨{ eq:=hRR.symm,ok:=hok1,dp:=fun _=>rfl,k0:=fun _=>by show (l.length:Int) < xa + 1 + (3001:Nat);omega,al:=by show (0:Int) ≤ (xa + 1) + _;split <;> omega,px:=hX2.out,row:=Kd.R_nil _ _ _ _ _,own:=fun b hb=>by simp [Value.ownBlock] at hb,grw:=hG2.out }⟩
  have HM:=Aside0.mk (fun W A c (hC:Kd.C (Kd.slice 50 k50) W A RR.1.length RR.1)=>made_any (nd 17 ⟨#[]⟩) RR.1 A c W hC hfl.1 hfl.2)
  have HKV:=Aside0.mk (vald_keeps l n)
  clear hkp hRR hfl
  go_wp2_with fail
  go_loopw [6] (fun v6 wr=>∃ (vk:Value) (k:Nat) (y:PS) (acc:List (List S50)),vk = v6 ∧ Aside0 (Rnds base g l 11 (vald n l) RR xd w wr vk k y acc)) (fun v6 _=>4000 - lenS v6)
  case atStart=>exact ⟨_,_,_,_,rfl,HR0⟩
  case round=>
   clear HR0 hX2 hG2
   obtain ⟨vk,k,y,acc,rfl,HA⟩:=hrel
   have hX:=HA.out.px
   have hgr:=hX.lt
   have hbr:base ≤ wr.heap.size:=by have:=HA.out.grw.size;omega
   obtain ⟨A2,c2,-,-,q0,q1,q2,q3,q4,q5,qz⟩:=hX.cells
   obtain ⟨yb,hyb⟩:∃ yb,yb = y.bad:=⟨_,rfl⟩
   rw [← hyb] at q4
   obtain ⟨AK,cK,hvK,-,hCK⟩:=Kd.R_reads HA.out.row
   clear q0 q1 q2 q3 q5 hX
   cases yb with
   | true=>
    have HRR:=Aside0.mk (HA.out.out_bad hyb.symm)
    have HMM:Aside0 (∀ W,W = wr → Calls Tryz.prog 30 #[val50 (nd 17 ⟨#[]⟩),vk] W fun e w'=>(∃ v,e = .returned v ∧ k50.R 50 w' W.heap.size (fun _=>True) v (made (nd 17 ⟨#[]⟩) RR.1)) ∧ Below W.heap.size W w'):=
     ⟨fun W hW=>by rw [hvK,HRR.out,hW];have:=HM.out wr AK cK (by rw [HRR.out];exact hCK);rw [HRR.out] at this;exact this⟩
    clear hyb hvK hCK
    go_wp2_with fail
    refine (HMM.out _ rfl).mono ?_
    rintro e w5 ⟨⟨v5,rfl,hR5⟩,hB5⟩
    have hR5':=Aside0.mk (Kd.R_lower hR5 hbr)
    have hX5:=Aside0.mk (HA.out.px.below hB5)
    have hG5:=Aside0.mk (grw_trans HA.out.grw (grw_below hB5))
    clear hR5 hB5
    go_wp2_with fail
    go_ret
    exact ⟨⟨_,rfl,by rw [HV.out];exact hR5'.out⟩,by rw [HV.out,HRR.out];exact hX5.out,hG5.out⟩
   | false=>
    have HT:=Aside0.mk (taken_any base g l y 11 wr HA.out.px HA.out.ok)
    obtain ⟨bt,hbt⟩:∃ bt,bt = y.takes l 11:=⟨_,rfl⟩
    rw [← hbt] at HT
    cases bt with
    | true=>
     have HRR:=Aside0.mk (HA.out.out_take hyb.symm hbt.symm)
     have HMM:Aside0 (∀ W,wr.grownBy W (some g) → Calls Tryz.prog 30 #[val50 (nd 17 ⟨#[]⟩),vk] W fun e w'=>(∃ v,e = .returned v ∧ k50.R 50 w' W.heap.size (fun _=>True) v (made (nd 17 ⟨#[]⟩) RR.1)) ∧ Below W.heap.size W w'):=
      ⟨fun W hW=>by
       obtain ⟨u,hu,-,-⟩:=HA.out.px
       obtain ⟨A3,c3,hv3,-,hC3⟩:=Kd.R_reads (R_grw HA.out.row hu (s41_ne (by decide) (by decide)) hW)
       rw [hv3,HRR.out]
       have:=HM.out W A3 c3 (by rw [HRR.out];exact hC3)
       rw [HRR.out] at this
       exact this⟩
     clear hyb hvK hCK hbt
     go_wp2_with fail
     refine HT.out.mono ?_
     rintro e w4 ⟨rfl,hX4,hG4⟩
     have HX4:=Aside0.mk hX4
     have HG4:=Aside0.mk hG4
     have hb4:base ≤ w4.heap.size:=by have:=hG4.size;omega
     clear hX4 hG4
     go_wp2_with fail
     refine (HMM.out _ HG4.out).mono ?_
     rintro e w5 ⟨⟨v5,rfl,hR5⟩,hB5⟩
     have hR5':=Aside0.mk (Kd.R_lower hR5 hb4)
     have hX5:=Aside0.mk (HX4.out.below hB5)
     have hG5:=Aside0.mk (grw_trans (grw_trans HA.out.grw HG4.out) (grw_below hB5))
     clear hR5 hB5
     go_wp2_with fail
     go_ret
     exact ⟨⟨_,rfl,by rw [HV.out];exact hR5'.out⟩,by rw [HV.out,HRR.out];exact hX5.out,hG5.out⟩
    | false=>
     have htk:y.took l 11 = y:=by unfold PS.took;rw [if_neg (by rw [← hbt];decide)]
     rw [htk] at HT
     have HB:=Aside0.mk (And.intro hyb.symm hbt.symm)
     obtain ⟨hal,hls⟩:=HA.out.len
     clear hyb hvK hCK hbt htk
     go_wp2_with fail
     refine HT.out.mono ?_
     rintro e w4 ⟨rfl,hX4,hG4⟩
     have HX4:=Aside0.mk hX4
     have HG4:=Aside0.mk hG4
     have hb4:base ≤ w4.heap.size:=by have:=hG4.size;omega
     have HR4:Aside0 ((Kd.slice 50 k50).R 41 w4 base (fun _=>True) vk acc):=⟨by
      obtain ⟨u,hu,-,-⟩:=HA.out.px
      exact R_grw HA.out.row hu (s41_ne (by decide) (by decide)) hG4⟩
     clear hX4 hG4
     go_wp2_with fail
     refine (HIH.out y w4 HX4.out HA.out.ok (HA.out.dp HB.out.1) hb4).mono ?_
     rintro e w5 ⟨⟨v5,rfl,hR5⟩,hX5,hG5⟩
     have HX5:=Aside0.mk hX5
     have HG5:=Aside0.mk (grw_trans (grw_trans HA.out.grw HG4.out) hG5)
     have hb5:base ≤ w5.heap.size:=by have:=hG5.size;omega
     have HR5:=Aside0.mk hR5
     have HK5:Aside0 ((Kd.slice 50 k50).R 41 w5 base (fun _=>True) vk acc):=⟨by
      obtain ⟨u,hu,-,-⟩:=HX4.out
      exact R_grw HR4.out hu (s41_ne (by decide) (by decide)) hG5⟩
     have hl24:(acc.length + 1) * 24 ≤ 140737488355328:=by omega
     obtain ⟨A5,cc5,rfl,-,-⟩:=Kd.R_reads hR5
     clear hX5 hG5 hR5
     go_wp2_with (at_builtin;refine Kd.R_append (Kd.slice 50 k50) (w0:=w5) base rfl (.tmp 133) (.tmp 137) 51 41 (.slice none 0 0) 24 rfl Tryz.underlying51 info41 rfl (by decide) (by decide) vk acc (vald n l y).1 [.slice A5 (vald n l y).1.length cc5] (fun _=>True) (fun k=>True ∧ some k ≠ vk.ownBlock) rfl rfl ⟨_,rfl,Kd.R_apart' HR5.out (Kd.R_typed HK5.out) (k50_ne (by decide))⟩ (fun _ hk=>hk) (fun _ _=>trivial) HK5.out (Below.refl _ _) hb5 hl24 ?_;intro v6 w6 hR6 hB6 hg6 hat6;have HN:=Aside0.mk (HA.out.more HB.out.1 HB.out.2 HKV.out HX5.out HG5.out hR6 (Kd.R_typed HK5.out) hg6 hat6);have hl6:=HN.out.len.2;clear hR6 hB6 hg6 hat6)
     go_roundw
     case rel=>exact ⟨_,_,_,_,rfl,HN⟩
     case measure=>rw [hl6,hls];simp;omega
 ·exfalso
  have hk1:kd l xa = 10:=hk1
  unfold kd at hk1
  rw [if_neg hlt] at hk1
  cases hk1
set_option maxRecDepth 8000 in
set_option maxHeartbeats 4000000 in
theorem here_obj (base g:Nat) (l:List S24) (n:Nat) (x:PS) (w:World) (h:Px w base g l x) (ho:x.ok l) (hd0:-1000 ≤ x.deep) (hd1:x.deep ≤ 1000) (hb:base ≤ w.heap.size) (hn:n ≤ 2000) (hk1:kd l x.at_ = 12)
  (IH:∀ (y:PS) (W:World),Px W base g l y → y.ok l → y.deep = x.deep → base ≤ W.heap.size → Calls Tryz.prog 45 #[.pointer (some ⟨g,0,none⟩),.bool false] W (Reads base g l (vald n l y) W)) :
  Calls Tryz.prog 80 #[.pointer (some ⟨g,0,none⟩),.bool false] w (Reads base g l (valH (vald n l) l x) w):=by
 have HX:=Aside0.mk h
 have HO:=Aside0.mk ho
 have HIH:=Aside0.mk IH
 have hg:=h.lt
 obtain ⟨A,c,hc,hC,c0,c1,c2,c3,c4,c5,fz⟩:=h.cells
 have HC:=Aside0.mk hC
 have ho0:=ho.a0
 have ho1:=ho.a1
 have ho2:=ho.ll
 have HF:=Aside0.mk (fun W h=>pfail_any base g l x W h)
 obtain ⟨xa,xd,xw,xb,xu⟩:=x
 dsimp only at c1 c2 c3 c4 c5 ho0 ho1 hd0 hd1
 clear h ho IH hC c2 c3 c5
 by_cases hlt:xa < (l.length:Int)
 ·have hbb:decide (xa ≥ (l.length:Int)) = false:=decide_eq_false (by omega)
  obtain ⟨ad,rfl,p0,p1,p2,p3⟩:=at_T24 HC.out xa ho0 hlt
  obtain ⟨t,ht⟩:∃ t,t = rd_T24 l xa:=⟨_,rfl⟩
  have hV:valH (vald n l) l ⟨xa,xd,xw,xb,xu⟩ = valT (vald n l) l t ⟨xa,xd,xw,xb,xu⟩:=by unfold valH;rw [if_pos hlt,ht]
  rw [hV]
  have hkd:kd l xa = t.f0:=by rw [ht];unfold kd;rw [if_pos hlt]
  rw [← ht] at p0 p1 p2 p3
  have hin:xa.toNat < l.length:=by omega
  clear ht hV
  go_enter Tryz.func80,Tryz.ntmps80
  go_wp2_with fail
  go_quiet (fail)
  obtain ⟨wq,hwq⟩:∃ wq,wq = w.drewN nq:=⟨_,rfl⟩
  rw [← hwq]
  have hBq:Below w.heap.size w wq:=by rw [hwq];exact pw_below_drewN (Below.refl _ _) _
  have hsz:w.heap.size ≤ wq.heap.size:=hBq.size
  have c0q:=pw_cell_below hBq c0
  have c1q:=pw_cell_below hBq c1
  have p0q:=pw_cell_below hBq p0
  have p1q:=pw_cell_below hBq p1
  have p2q:=pw_cell_below hBq p2
  have p3q:=pw_cell_below hBq p3
  have hgq:g < wq.heap.size:=by omega
  have hadq:=World.block_lt_of_cell? wq _ p0q
  clear c0 c1 p0 p1 p2 p3
  have HBQ:=Aside0.mk hBq
  clear hBq hwq
  go_upto_region 3 with fail
  go_region
  obtain ⟨t0,t1,t2,t3⟩:=t
  obtain ⟨k,hk⟩:∃ k,k = wq.heap.size:=⟨_,rfl⟩
  obtain ⟨wa,hwa⟩:∃ wa,wa = (wq.alloc (.cells #[.int .i64 t0,.string t1,.int .i64 t2,.int .i64 t3] 24)).drew:=⟨_,rfl⟩
  have hEa:wa.heap[k]? = some (.cells #[.int .i64 t0,.string t1,.int .i64 t2,.int .i64 t3] 24 (0,0)):=by rw [hwa,hk];exact blk_new _ _
  have hBa:Below w.heap.size w wa:=by rw [hwa];exact below_drew (below_then HBQ.out hsz (below_alloc (Below.refl _ _) _))
  dsimp only
  rw [← hwa,← hk]
  have hgk:g ≠ k:=by omega
  have a0:=(blk_cell hEa 0).trans rfl
  have a1:=(blk_cell hEa 1).trans rfl
  have HXa:=Aside0.mk (HX.out.below hBa)
  have HGa:Aside0 (w.grownBy wa (some g)):=⟨grw_below hBa⟩
  have HEa:=Aside0.mk hEa
  obtain ⟨A2,cc2,-,-,d0,d1,d2,d3,d4,d5,fz2⟩:=HXa.out.cells
  dsimp only at d1 d2 d3 d4 d5
  have hga:g < wa.heap.size:=HXa.out.lt
  have hka:=blk_lt hEa
  have hsa:w.heap.size ≤ wa.heap.size:=hBa.size
  clear c0q c1q p0q p1q p2q p3q hgq hadq hwa hEa hBa fz c4 hsz HBQ hk d0 d2 d3
  obtain rfl:t0 = 12:=hkd.symm.trans hk1
  clear hkd hk1
  have hX2:=Aside0.mk (HXa.out.set1 (xa + 1))
  have hG2:=Aside0.mk (grw_set HGa.out 1 (.int .i64 (xa + 1)))
  have hs2:(wa.setCell ⟨g,1,none⟩ (.int .i64 (xa + 1))).heap.size = wa.heap.size:=by simp
  have hw1:IntKind.i64.wrap (xa + 1) = xa + 1:=by rw [i64_w];unfold wrap64;omega
  have hb2:base ≤ wa.heap.size:=by omega
  have HV:Aside0 (valT (vald n l) l ⟨12,t1,t2,t3⟩ ⟨xa,xd,xw,xb,xu⟩ = (made (nd 18 ⟨#[]⟩) (loopd 14 (fldd (vald n l) l) l 3001 ⟨xa + 1,xd,xw,xb,xu⟩ []).1,(loopd 14 (fldd (vald n l) l) l 3001 ⟨xa + 1,xd,xw,xb,xu⟩ []).2)):=⟨by unfold valT;rw [if_neg (show ¬ (12:Int) = 3 by decide),if_neg (show ¬ ((12:Int) = 16 ∨ (12:Int) = 17) by decide),if_neg (show ¬ ((12:Int) = 18 ∨ (12:Int) = 19) by decide),if_neg (show ¬ (12:Int) = 15 by decide),if_neg (show ¬ (12:Int) = 10 by decide),if_pos rfl];rfl⟩
  have hok1:PS.ok l ⟨xa + 1,xd,xw,xb,xu⟩:=HO.out.next hlt
  have hkp:=loopd_keeps (c:=14) (by decide) (fldd_keeps (vald_keeps l n)) 3001 ⟨xa + 1,xd,xw,xb,xu⟩ [] hok1 (by show (l.length:Int) < xa + 1 + (3001:Nat);omega)
  obtain ⟨RR,hRR⟩:∃ RR,RR = loopd 14 (fldd (vald n l) l) l 3001 ⟨xa + 1,xd,xw,xb,xu⟩ []:=⟨_,rfl⟩
  rw [← hRR] at HV hkp
  have hfl:RR.1.flatten.length ≤ 1000000 ∧ RR.1.length ≤ 1000000:=by
   have q1:=hkp.l1
   have q2:=hkp.ok.a1
   have q3:=hkp.many
   have q4:(RR.1.flatten.length:Int) ≤ 0 + 3 * (RR.2.at_ - (xa + 1)) + (2 * n + 1:Nat):=q1
   have q5:(RR.1.length:Int) ≤ 0 + (RR.2.at_ - (xa + 1)) + 1:=q3
   constructor <;> omega
  have HR0:Aside0 (Rnds base g l 14 (fldd (vald n l) l) RR xd w (wa.setCell ⟨g,1,none⟩ (.int .i64 (xa + 1))) (.slice none 0 0) 3001 ⟨xa + 1,xd,xw,xb,xu⟩ []):=⟨{ eq:=hRR.symm,ok:=hok1,dp:=fun _=>rfl,k0:=fun _=>by show (l.length:Int) < xa + 1 + (3001:Nat);omega,al:=by show (0:Int) ≤ (xa + 1) + _;split <;> omega,px:=hX2.out,row:=Kd.R_nil _ _ _ _ _,own:=fun b hb=>by simp [Value.ownBlock] at hb,grw:=hG2.out }⟩
  have HM:=Aside0.mk (fun W A c (hC:Kd.C (Kd.slice 50 k50) W A RR.1.length RR.1)=>made_any (nd 18 ⟨#[]⟩) RR.1 A c W hC hfl.1 hfl.2)
  have HKV:=Aside0.mk (fldd_keeps (vald_keeps l n))
  clear hkp hRR hfl
  go_wp2_with fail
  go_loopw [7] (fun v6 wr=>∃ (vk:Value) (k:Nat) (y:PS) (acc:List (List S50)),vk = v6 ∧ Aside0 (Rnds base g l 14 (fldd (vald n l) l) RR xd w wr vk k y acc)) (fun v6 _=>4000 - lenS v6)
  case atStart=>exact ⟨_,_,_,_,rfl,HR0⟩
  case round=>
   clear HR0 hX2 hG2
   obtain ⟨vk,k,y,acc,rfl,HA⟩:=hrel
   have hX:=HA.out.px
   have hgr:=hX.lt
   have hbr:base ≤ wr.heap.size:=by have:=HA.out.grw.size;omega
   obtain ⟨A2,c2,-,-,q0,q1,q2,q3,q4,q5,qz⟩:=hX.cells
   obtain ⟨yb,hyb⟩:∃ yb,yb = y.bad:=⟨_,rfl⟩
   rw [← hyb] at q4
   obtain ⟨AK,cK,hvK,-,hCK⟩:=Kd.R_reads HA.out.row
   clear q0 q1 q2 q3 q5 hX
   cases yb with
   | true=>
    have HRR:=Aside0.mk (HA.out.out_bad hyb.symm)
    have HMM:Aside0 (∀ W,W = wr → Calls Tryz.prog 30 #[val50 (nd 18 ⟨#[]⟩),vk] W fun e w'=>(∃ v,e = .returned v ∧ k50.R 50 w' W.heap.size (fun _=>True) v (made (nd 18 ⟨#[]⟩) RR.1)) ∧ Below W.heap.size W w'):=
     ⟨fun W hW=>by rw [hvK,HRR.out,hW];have:=HM.out wr AK cK (by rw [HRR.out];exact hCK);rw [HRR.out] at this;exact this⟩
    clear hyb hvK hCK
    go_wp2_with fail
    refine (HMM.out _ rfl).mono ?_
    rintro e w5 ⟨⟨v5,rfl,hR5⟩,hB5⟩
    have hR5':=Aside0.mk (Kd.R_lower hR5 hbr)
    have hX5:=Aside0.mk (HA.out.px.below hB5)
    have hG5:=Aside0.mk (grw_trans HA.out.grw (grw_below hB5))
    clear hR5 hB5
    go_wp2_with fail
    go_ret
    exact ⟨⟨_,rfl,by rw [HV.out];exact hR5'.out⟩,by rw [HV.out,HRR.out];exact hX5.out,hG5.out⟩
   | false=>
    have HT:=Aside0.mk (taken_any base g l y 14 wr HA.out.px HA.out.ok)
    obtain ⟨bt,hbt⟩:∃ bt,bt = y.takes l 14:=⟨_,rfl⟩
    rw [← hbt] at HT
    cases bt with
    | true=>
     have HRR:=Aside0.mk (HA.out.out_take hyb.symm hbt.symm)
     have HMM:Aside0 (∀ W,wr.grownBy W (some g) → Calls Tryz.prog 30 #[val50 (nd 18 ⟨#[]⟩),vk] W fun e w'=>(∃ v,e = .returned v ∧ k50.R 50 w' W.heap.size (fun _=>True) v (made (nd 18 ⟨#[]⟩) RR.1)) ∧ Below W.heap.size W w'):=
      ⟨fun W hW=>by
       obtain ⟨u,hu,-,-⟩:=HA.out.px
       obtain ⟨A3,c3,hv3,-,hC3⟩:=Kd.R_reads (R_grw HA.out.row hu (s41_ne (by decide) (by decide)) hW)
       rw [hv3,HRR.out]
       have:=HM.out W A3 c3 (by rw [HRR.out];exact hC3)
       rw [HRR.out] at this
       exact this⟩
     clear hyb hvK hCK hbt
     go_wp2_with fail
     refine HT.out.mono ?_
     rintro e w4 ⟨rfl,hX4,hG4⟩
     have HX4:=Aside0.mk hX4
     have HG4:=Aside0.mk hG4
     have hb4:base ≤ w4.heap.size:=by have:=hG4.size;omega
     clear hX4 hG4
     go_wp2_with fail
     refine (HMM.out _ HG4.out).mono ?_
     rintro e w5 ⟨⟨v5,rfl,hR5⟩,hB5⟩
     have hR5':=Aside0.mk (Kd.R_lower hR5 hb4)
     have hX5:=Aside0.mk (HX4.out.below hB5)
     have hG5:=Aside0.mk (grw_trans (grw_trans HA.out.grw HG4.out) (grw_below hB5))
     clear hR5 hB5
     go_wp2_with fail
     go_ret
     exact ⟨⟨_,rfl,by rw [HV.out];exact hR5'.out⟩,by rw [HV.out,HRR.out];exact hX5.out,hG5.out⟩
    | false=>
     have htk:y.took l 14 = y:=by unfold PS.took;rw [if_neg (by rw [← hbt];decide)]
     rw [htk] at HT
     have HB:=Aside0.mk (And.intro hyb.symm hbt.symm)
     obtain ⟨hal,hls⟩:=HA.out.len
     clear hyb hvK hCK hbt htk
     go_wp2_with fail
     refine HT.out.mono ?_
     rintro e w4 ⟨rfl,hX4,hG4⟩
     have HX4:=Aside0.mk hX4
     have HG4:=Aside0.mk hG4
     have hb4:base ≤ w4.heap.size:=by have:=hG4.size;omega
     have HR4:Aside0 ((Kd.slice 50 k50).R 41 w4 base (fun _=>True) vk acc):=⟨by
      obtain ⟨u,hu,-,-⟩:=HA.out.px
      exact R_grw HA.out.row hu (s41_ne (by decide) (by decide)) hG4⟩
     clear hX4 hG4
     obtain ⟨yn,hyn⟩:∃ yn,yn = y.named l:=⟨_,rfl⟩
     have hNA:=pname_any base g l y w4 HX4.out HA.out.ok
     rw [← hyn] at hNA
     have HNA:=Aside0.mk hNA
     obtain ⟨nm,y2⟩:=yn
     obtain ⟨y3,hy3⟩:∃ y3,y3 = y2.musted l 7:=⟨_,rfl⟩
     have hfd:fieldd l y = y3:=by unfold fieldd;rw [← hyn,hy3]
     have hok2:y2.ok l:=by have:=HA.out.ok.named (l:=l);rw [← hyn] at this;exact this
     have hok3:y3.ok l:=by rw [← hfd];exact fieldd_ok HA.out.ok
     have hd3:y3.deep = xd:=by rw [← hfd,fieldd_deep];exact HA.out.dp HB.out.1
     have HFL:Aside0 (fldd (vald n l) l y = (made (nd 19 nm) [(vald n l y3).1],(vald n l y3).2)):=⟨by unfold fldd;rw [hfd,← hyn]⟩
     have HMU:=Aside0.mk (fun W (hX:Px W base g l y2)=>must_any base g l y2 7 W hX hok2)
     rw [← hy3] at HMU
     have hlv:(vald n l y3).1.length ≤ 100000:=by
      have q1:=(vald_keeps l n y3 hok3).l1
      have q2:=(vald_keeps l n y3 hok3).ok.a1
      have q3:=hok3.a0
      omega
     have HIV:=Aside0.mk (fun W (hX:Px W base g l y3) (hb:base ≤ W.heap.size)=>HIH.out y3 W hX hok3 hd3 hb)
     obtain ⟨rv,hrv⟩:∃ rv,rv = vald n l y3:=⟨_,rfl⟩
     rw [← hrv] at HFL HIV hlv
     clear hyn hNA hy3 hfd hok2 hok3 hd3 hrv
     go_wp2_with fail
     refine HNA.out.mono ?_
     rintro e w5 ⟨rfl,hX5,hG5⟩
     have HX5:=Aside0.mk hX5
     have HG5:=Aside0.mk (grw_trans HG4.out hG5)
     have HR5:Aside0 ((Kd.slice 50 k50).R 41 w5 base (fun _=>True) vk acc):=⟨by
      obtain ⟨u,hu,-,-⟩:=HX4.out
      exact R_grw HR4.out hu (s41_ne (by decide) (by decide)) hG5⟩
     have hb5:base ≤ w5.heap.size:=by have:=hG5.size;omega
     clear hX5 hG5
     go_wp2_with fail
     obtain ⟨W5,hW5⟩:∃ W5,W5 = w5.alloc (.cells #[.int .i64 19,.string nm,.string ⟨#[]⟩,.string ⟨#[]⟩,.int .i64 0,.int .i64 0] 50):=⟨_,rfl⟩
     have hE5:W5.heap[w5.heap.size]? = some (.cells #[.int .i64 19,.string nm,.string ⟨#[]⟩,.string ⟨#[]⟩,.int .i64 0,.int .i64 0] 50 (0,0)):=by rw [hW5];exact blk_new _ _
     have hB5:Below w5.heap.size w5 W5:=by rw [hW5];exact below_alloc (Below.refl _ _) _
     rw [← hW5]
     have hgx:w5.heap.size ≠ g:=by have:=HX5.out.lt;omega
     have HE5:=Aside0.mk hE5
     have HB5:=Aside0.mk hB5
     clear hE5 hB5 hW5
     refine (HMU.out _ (HX5.out.below HB5.out)).mono ?_
     rintro e w6 ⟨rfl,hX6,hG6⟩
     have HX6:=Aside0.mk hX6
     have hG56:=grw_trans (grw_below HB5.out) hG6
     have HG6:=Aside0.mk (grw_trans HG5.out hG56)
     have HR6:Aside0 ((Kd.slice 50 k50).R 41 w6 base (fun _=>True) vk acc):=⟨by
      obtain ⟨u,hu,-,-⟩:=HX5.out
      exact R_grw HR5.out hu (s41_ne (by decide) (by decide)) hG56⟩
     have hE6:w6.heap[w5.heap.size]? = some (.cells #[.int .i64 19,.string nm,.string ⟨#[]⟩,.string ⟨#[]⟩,.int .i64 0,.int .i64 0] 50 (0,0)):=(hG6.block w5.heap.size (blk_lt HE5.out) (fun e=>hgx (by injection e))).trans HE5.out
     have HE6:=Aside0.mk hE6
     have x0:=(blk_cell hE6 0).trans rfl
     have x1:=(blk_cell hE6 1).trans rfl
     have x2:=(blk_cell hE6 2).trans rfl
     have x3:=(blk_cell hE6 3).trans rfl
     have x4:=(blk_cell hE6 4).trans rfl
     have x5:=(blk_cell hE6 5).trans rfl
     have hb6:base ≤ w6.heap.size:=by have:=hG6.size;have:=HB5.out.size;omega
     have hbx6:=blk_lt hE6
     have hl24:(acc.length + 1) * 24 ≤ 140737488355328:=by omega
     clear hX6 hG6 hG56 hE6
     go_wp2_with fail
     go_region_law (first
      | (refine Kd.R_append_step (Kd.slice 50 k50) (w0:=w8) base rfl (.tmp 166) (.tmp 173) 51 41 (.slice none 0 0) 24 rfl Tryz.underlying51 info41 rfl (by decide) (by decide) vk acc (made (nd 19 nm) [rv.1]) [.slice A8 (made (nd 19 nm) [rv.1]).length c8] (fun _=>True) (fun k=>True ∧ some k ≠ vk.ownBlock) (by simp [Act.eval,Act.put]) (by simp [Act.eval,Act.put]) ⟨_,rfl,Kd.R_apart' HR8.out (Kd.R_typed HK8.out) (k50_ne (by decide))⟩ (fun _ hk=>hk) (fun _ _=>trivial) HK8.out (Below.refl _ _) hb8 hl24 ?_;intro v9 w9 hR9 hB9 hg9 hat9;have HN:=Aside0.mk (HA.out.more HB.out.1 HB.out.2 HKV.out (by rw [HFL.out];exact HX8.out) (grw_trans HA.out.grw HG8.out) (by rw [HFL.out];exact hR9) (Kd.R_typed HK8.out) hg9 hat9);have hl9:=HN.out.len.2;rw [HFL.out] at HN hl9;clear hR9 hB9 hg9 hat9)
      | (go_simp;go_at_call 45;refine (HIV.out _ (HX6.out.below (below_drew (Below.refl _ _))) hb6).mono ?_;rintro e w7 ⟨⟨v7,rfl,hR7⟩,hX7,hG7⟩;have hE7:=(hG7.block w5.heap.size (blk_lt HE6.out) (fun e=>hgx (by injection e))).trans (blk_below HE6.out (below_drew (Below.refl _ _)));have HX7:=Aside0.mk hX7;have HG7:=Aside0.mk (grw_trans HG6.out (grw_trans (grw_below (below_drew (Below.refl _ _))) hG7));have z0:=(blk_cell hE7 0).trans rfl;have z1:=(blk_cell hE7 1).trans rfl;have z2:=(blk_cell hE7 2).trans rfl;have z3:=(blk_cell hE7 3).trans rfl;have z4:=(blk_cell hE7 4).trans rfl;have z5:=(blk_cell hE7 5).trans rfl;have HR7:=Aside0.mk hR7;have HK7:Aside0 ((Kd.slice 50 k50).R 41 w7 base (fun _=>True) vk acc):=Aside0.mk (by obtain ⟨u,hu,-,-⟩:=HX6.out.below (below_drew (Below.refl _ _));exact R_grw (Kd.R_below HR6.out (below_drew (Below.refl _ _))) hu (s41_ne (by decide) (by decide)) hG7);have hb7:base ≤ w7.heap.size:=Nat.le_trans hb6 hG7.size;have hbx7:=blk_lt hE7;obtain ⟨A7,c7,rfl,-,-⟩:=Kd.R_reads hR7;clear hR7 hX7 hG7 hE7)
      | (go_simp;go_at_call 30;refine (made_any (nd 19 nm) [rv.1] (some ⟨w7.heap.size,0,none⟩) 1 _ (kids_one HR7.out) (by simp;omega) (by simp)).mono ?_;rintro e w8 ⟨⟨v8,rfl,hR8⟩,hB8⟩;have hB8':Below w7.heap.size w7 w8:=(below_alloc (Below.refl _ _) _).trans (hB8.mono (by simp));have HR8:=Aside0.mk (Kd.R_lower hR8 (show base ≤ _ by simp;omega));have HX8:=Aside0.mk (HX7.out.below hB8');have HG8:=Aside0.mk (grw_trans HG7.out (grw_below hB8'));have HK8:=Aside0.mk (Kd.R_below HK7.out hB8');have hb8:base ≤ w8.heap.size:=Nat.le_trans hb7 hB8'.size;obtain ⟨A8,c8,rfl,-,-⟩:=Kd.R_reads hR8;clear hR8 hB8 hB8'))
     all_goals
      go_wp2_with fail
      go_roundw
      case rel=>first | exact ⟨_,_,_,_,rfl,HN⟩ | exact ⟨_,_,_,HN⟩ | exact ⟨_,_,_,_,HN⟩
      case measure=>first | omega | (rw [hl9,hls];simp;omega)
 ·exfalso
  have hk1:kd l xa = 12:=hk1
  unfold kd at hk1
  rw [if_neg hlt] at hk1
  cases hk1
set_option maxRecDepth 8000 in
set_option maxHeartbeats 4000000 in
theorem here_name (base g:Nat) (l:List S24) (n:Nat) (x:PS) (w:World) (h:Px w base g l x) (ho:x.ok l) (hd0:-1000 ≤ x.deep) (hd1:x.deep ≤ 1000) (hb:base ≤ w.heap.size) (hn:n ≤ 2000) (hk1:kd l x.at_ = 15)
  (IH:∀ (y:PS) (W:World),Px W base g l y → y.ok l → y.deep = x.deep → base ≤ W.heap.size → Calls Tryz.prog 45 #[.pointer (some ⟨g,0,none⟩),.bool false] W (Reads base g l (vald n l y) W)) :
  Calls Tryz.prog 80 #[.pointer (some ⟨g,0,none⟩),.bool false] w (Reads base g l (valH (vald n l) l x) w):=by
 have HX:=Aside0.mk h
 have HO:=Aside0.mk ho
 have HIH:=Aside0.mk IH
 have hg:=h.lt
 obtain ⟨A,c,hc,hC,c0,c1,c2,c3,c4,c5,fz⟩:=h.cells
 have HC:=Aside0.mk hC
 have ho0:=ho.a0
 have ho1:=ho.a1
 have ho2:=ho.ll
 have HF:=Aside0.mk (fun W h=>pfail_any base g l x W h)
 obtain ⟨xa,xd,xw,xb,xu⟩:=x
 dsimp only at c1 c2 c3 c4 c5 ho0 ho1 hd0 hd1
 clear h ho IH hC c2 c3 c5
 by_cases hlt:xa < (l.length:Int)
 ·have hbb:decide (xa ≥ (l.length:Int)) = false:=decide_eq_false (by omega)
  obtain ⟨ad,rfl,p0,p1,p2,p3⟩:=at_T24 HC.out xa ho0 hlt
  obtain ⟨t,ht⟩:∃ t,t = rd_T24 l xa:=⟨_,rfl⟩
  have hV:valH (vald n l) l ⟨xa,xd,xw,xb,xu⟩ = valT (vald n l) l t ⟨xa,xd,xw,xb,xu⟩:=by unfold valH;rw [if_pos hlt,ht]
  rw [hV]
  have hkd:kd l xa = t.f0:=by rw [ht];unfold kd;rw [if_pos hlt]
  rw [← ht] at p0 p1 p2 p3
  have hin:xa.toNat < l.length:=by omega
  clear ht hV
  go_enter Tryz.func80,Tryz.ntmps80
  go_wp2_with fail
  go_quiet (fail)
  obtain ⟨wq,hwq⟩:∃ wq,wq = w.drewN nq:=⟨_,rfl⟩
  rw [← hwq]
  have hBq:Below w.heap.size w wq:=by rw [hwq];exact pw_below_drewN (Below.refl _ _) _
  have hsz:w.heap.size ≤ wq.heap.size:=hBq.size
  have c0q:=pw_cell_below hBq c0
  have c1q:=pw_cell_below hBq c1
  have p0q:=pw_cell_below hBq p0
  have p1q:=pw_cell_below hBq p1
  have p2q:=pw_cell_below hBq p2
  have p3q:=pw_cell_below hBq p3
  have hgq:g < wq.heap.size:=by omega
  have hadq:=World.block_lt_of_cell? wq _ p0q
  clear c0 c1 p0 p1 p2 p3
  have HBQ:=Aside0.mk hBq
  clear hBq hwq
  go_upto_region 3 with fail
  go_region
  obtain ⟨t0,t1,t2,t3⟩:=t
  obtain ⟨k,hk⟩:∃ k,k = wq.heap.size:=⟨_,rfl⟩
  obtain ⟨wa,hwa⟩:∃ wa,wa = (wq.alloc (.cells #[.int .i64 t0,.string t1,.int .i64 t2,.int .i64 t3] 24)).drew:=⟨_,rfl⟩
  have hEa:wa.heap[k]? = some (.cells #[.int .i64 t0,.string t1,.int .i64 t2,.int .i64 t3] 24 (0,0)):=by rw [hwa,hk];exact blk_new _ _
  have hBa:Below w.heap.size w wa:=by rw [hwa];exact below_drew (below_then HBQ.out hsz (below_alloc (Below.refl _ _) _))
  dsimp only
  rw [← hwa,← hk]
  have hgk:g ≠ k:=by omega
  have a0:=(blk_cell hEa 0).trans rfl
  have a1:=(blk_cell hEa 1).trans rfl
  have HXa:=Aside0.mk (HX.out.below hBa)
  have HGa:Aside0 (w.grownBy wa (some g)):=⟨grw_below hBa⟩
  have HEa:=Aside0.mk hEa
  obtain ⟨A2,cc2,-,-,d0,d1,d2,d3,d4,d5,fz2⟩:=HXa.out.cells
  dsimp only at d1 d2 d3 d4 d5
  have hga:g < wa.heap.size:=HXa.out.lt
  have hka:=blk_lt hEa
  have hsa:w.heap.size ≤ wa.heap.size:=hBa.size
  clear c0q c1q p0q p1q p2q p3q hgq hadq hwa hEa hBa fz c4 hsz HBQ hk d0 d2 d3
  obtain rfl:t0 = 15:=hkd.symm.trans hk1
  clear hkd hk1
  have hX2:=Aside0.mk (HXa.out.set1 (xa + 1))
  have hG2:=Aside0.mk (grw_set HGa.out 1 (.int .i64 (xa + 1)))
  have hs2:(wa.setCell ⟨g,1,none⟩ (.int .i64 (xa + 1))).heap.size = wa.heap.size:=by simp
  have hw1:IntKind.i64.wrap (xa + 1) = xa + 1:=by rw [i64_w];unfold wrap64;omega
  have hb2:base ≤ wa.heap.size:=by omega
  by_cases ht:t1 = wTrue
  ·have HV:Aside0 (valT (vald n l) l ⟨15,t1,t2,t3⟩ ⟨xa,xd,xw,xb,xu⟩ = (made ⟨15,⟨#[]⟩,⟨#[]⟩,⟨#[]⟩,1,0⟩ [],⟨xa + 1,xd,xw,xb,xu⟩)):=⟨by unfold valT;rw [if_neg (show ¬ (15:Int) = 3 by decide),if_neg (show ¬ ((15:Int) = 16 ∨ (15:Int) = 17) by decide),if_neg (show ¬ ((15:Int) = 18 ∨ (15:Int) = 19) by decide),if_pos rfl,if_pos ht];rfl⟩
   have HM:=Aside0.mk (fun W=>made_any ⟨15,⟨#[]⟩,⟨#[]⟩,⟨#[]⟩,1,0⟩ [] none 0 W (kids_none W) (by simp) (by simp))
   unfold wTrue at ht
   subst ht
   skip
   go_wp2_with fail
   refine (HM.out _).mono ?_
   rintro e w5 ⟨⟨v5,rfl,hR5⟩,hB5⟩
   have hR5':=Aside0.mk (Kd.R_lower hR5 (by rw [hs2];exact hb2))
   have hX5:=Aside0.mk (hX2.out.below hB5)
   have hG5:=Aside0.mk (grw_trans hG2.out (grw_below hB5))
   clear hR5 hB5
   go_wp2_with fail
   go_ret
   exact ⟨⟨_,rfl,by rw [HV.out];exact hR5'.out⟩,by rw [HV.out];exact hX5.out,hG5.out⟩
  by_cases hf:t1 = wFalse
  ·have HV:Aside0 (valT (vald n l) l ⟨15,t1,t2,t3⟩ ⟨xa,xd,xw,xb,xu⟩ = (made ⟨15,⟨#[]⟩,⟨#[]⟩,⟨#[]⟩,0,0⟩ [],⟨xa + 1,xd,xw,xb,xu⟩)):=⟨by unfold valT;rw [if_neg (show ¬ (15:Int) = 3 by decide),if_neg (show ¬ ((15:Int) = 16 ∨ (15:Int) = 17) by decide),if_neg (show ¬ ((15:Int) = 18 ∨ (15:Int) = 19) by decide),if_pos rfl,if_neg ht,if_pos hf];rfl⟩
   have HM:=Aside0.mk (fun W=>made_any ⟨15,⟨#[]⟩,⟨#[]⟩,⟨#[]⟩,0,0⟩ [] none 0 W (kids_none W) (by simp) (by simp))
   unfold wFalse at hf
   subst hf
   clear ht
   go_wp2_with fail
   refine (HM.out _).mono ?_
   rintro e w5 ⟨⟨v5,rfl,hR5⟩,hB5⟩
   have hR5':=Aside0.mk (Kd.R_lower hR5 (by rw [hs2];exact hb2))
   have hX5:=Aside0.mk (hX2.out.below hB5)
   have hG5:=Aside0.mk (grw_trans hG2.out (grw_below hB5))
   clear hR5 hB5
   go_wp2_with fail
   go_ret
   exact ⟨⟨_,rfl,by rw [HV.out];exact hR5'.out⟩,by rw [HV.out];exact hX5.out,hG5.out⟩
  by_cases hn0:t1 = wNull
  ·have HV:Aside0 (valT (vald n l) l ⟨15,t1,t2,t3⟩ ⟨xa,xd,xw,xb,xu⟩ = ([],PS.failed ⟨xa + 1,xd,xw,xb,true⟩)):=⟨by unfold valT;rw [if_neg (show ¬ (15:Int) = 3 by decide),if_neg (show ¬ ((15:Int) = 16 ∨ (15:Int) = 17) by decide),if_neg (show ¬ ((15:Int) = 18 ∨ (15:Int) = 19) by decide),if_pos rfl,if_neg ht,if_neg hf,if_pos hn0];rfl⟩
   have HFN:=Aside0.mk (fun W h=>pfail_any base g l ⟨xa + 1,xd,xw,xb,true⟩ W h)
   have hX3:=Aside0.mk (hX2.out.set5 true)
   have hG3:=Aside0.mk (grw_set hG2.out 5 (.bool true))
   unfold wNull at hn0
   subst hn0
   clear ht hf
   go_wp2_with fail
   refine (HFN.out _ hX3.out).mono ?_
   rintro e w5 ⟨rfl,hX5,hG5⟩
   have HX5:=Aside0.mk hX5
   have HG5:=Aside0.mk (grw_trans hG3.out hG5)
   clear hX5 hG5
   go_wp2_with fail
   go_ret
   exact ⟨⟨_,rfl,by rw [HV.out];exact Kd.R_nil _ _ _ _ _⟩,by rw [HV.out];exact HX5.out,HG5.out⟩
  have HV:Aside0 (valT (vald n l) l ⟨15,t1,t2,t3⟩ ⟨xa,xd,xw,xb,xu⟩ = (made ⟨16,t1,⟨#[]⟩,⟨#[]⟩,0,0⟩ [],⟨xa + 1,xd,xw,xb,xu⟩)):=⟨by unfold valT;rw [if_neg (show ¬ (15:Int) = 3 by decide),if_neg (show ¬ ((15:Int) = 16 ∨ (15:Int) = 17) by decide),if_neg (show ¬ ((15:Int) = 18 ∨ (15:Int) = 19) by decide),if_pos rfl,if_neg ht,if_neg hf,if_neg hn0];rfl⟩
  have HM:=Aside0.mk (fun W=>made_any ⟨16,t1,⟨#[]⟩,⟨#[]⟩,0,0⟩ [] none 0 W (kids_none W) (by simp) (by simp))
  have e1:(t1.toList == [116,114,117,101]) = false:=toList_ne ht
  have e2:(t1.toList == [102,97,108,115,101]) = false:=toList_ne hf
  have e3:(t1.toList == [110,117,108,108]) = false:=toList_ne hn0
  clear ht hf hn0
  go_wp2_with fail
  refine (HM.out _).mono ?_
  rintro e w5 ⟨⟨v5,rfl,hR5⟩,hB5⟩
  have hR5':=Aside0.mk (Kd.R_lower hR5 (by rw [hs2];exact hb2))
  have hX5:=Aside0.mk (hX2.out.below hB5)
  have hG5:=Aside0.mk (grw_trans hG2.out (grw_below hB5))
  clear hR5 hB5
  go_wp2_with fail
  go_ret
  exact ⟨⟨_,rfl,by rw [HV.out];exact hR5'.out⟩,by rw [HV.out];exact hX5.out,hG5.out⟩
 ·exfalso
  have hk1:kd l xa = 15:=hk1
  unfold kd at hk1
  rw [if_neg hlt] at hk1
  cases hk1
theorem here_any (base g:Nat) (l:List S24) (n:Nat) (x:PS) (w:World) (h:Px w base g l x) (ho:x.ok l) (hd0:-1000 ≤ x.deep) (hd1:x.deep ≤ 1000) (hb:base ≤ w.heap.size) (hn:n ≤ 2000)
  (IH:∀ (y:PS) (W:World),Px W base g l y → y.ok l → y.deep = x.deep → base ≤ W.heap.size → Calls Tryz.prog 45 #[.pointer (some ⟨g,0,none⟩),.bool false] W (Reads base g l (vald n l y) W)) :
  Calls Tryz.prog 80 #[.pointer (some ⟨g,0,none⟩),.bool false] w (Reads base g l (valH (vald n l) l x) w):=by
 by_cases h10:kd l x.at_ = 10
 ·exact here_list base g l n x w h ho hd0 hd1 hb hn h10 IH
 by_cases h12:kd l x.at_ = 12
 ·exact here_obj base g l n x w h ho hd0 hd1 hb hn h12 IH
 by_cases h15:kd l x.at_ = 15
 ·exact here_name base g l n x w h ho hd0 hd1 hb hn h15 IH
 exact here_leaf base g l n x w h ho hd0 hd1 hb hn h10 h12 h15 IH
set_option maxHeartbeats 1000000 in
theorem value_any (base g:Nat) (l:List S24):∀ (n:Nat) (x:PS) (w:World),Px w base g l x → x.ok l → -1000 ≤ x.deep → x.deep ≤ 60 → 61 ≤ x.deep + n → base ≤ w.heap.size → n ≤ 2000 →
  Calls Tryz.prog 45 #[.pointer (some ⟨g,0,none⟩),.bool false] w (Reads base g l (vald n l x) w)
 | 0,x,w,h,ho,hd0,hd1,hn,hb,hN=>by omega
 | n + 1,x,w,h,ho,hd0,hd1,hn,hb,hN=>by
  have HE:=Aside0.mk (enter_any base g l x w h (by omega) (by omega))
  obtain ⟨x1,hx1⟩:∃ y,y = x.entered:=⟨_,rfl⟩
  have ho1:x1.ok l:=by rw [hx1];exact ho.entered
  have hd:x1.deep = x.deep + 1:=by rw [hx1,PS.entered_deep]
  have hd6:x1.bad = false → x1.deep ≤ 60:=fun e=>by rw [hd];exact PS.entered_ok (by rw [← hx1];exact e)
  have hV:vald (n + 1) l x = if x1.bad = true then ([],x1) else ((valH (vald n l) l x1).1,(valH (vald n l) l x1).2.left):=by rw [vald,← hx1]
  rw [← hx1] at HE
  rw [hV]
  clear hV hx1 h
  obtain ⟨bb,hbb⟩:∃ bb,bb = x1.bad:=⟨_,rfl⟩
  rw [← hbb] at HE ⊢
  cases bb with
  | true=>
   rw [if_pos rfl]
   clear hbb hd6
   go_enter Tryz.func45,Tryz.ntmps45
   go_wp2_with fail
   refine HE.out.mono ?_
   rintro e w1 ⟨rfl,hX1,hG1⟩
   have HX1:=Aside0.mk hX1
   have HG1:=Aside0.mk hG1
   clear hX1 hG1
   go_wp2_with fail
   go_ret
   exact ⟨⟨_,rfl,Kd.R_nil _ _ _ _ _⟩,HX1.out,HG1.out⟩
  | false=>
   rw [if_neg (by decide)]
   have hd6:=hd6 hbb.symm
   have hk:=valH_keeps (vald_keeps l n) ho1
   have HH:=Aside0.mk (fun W (hX:Px W base g l x1) (hbW:base ≤ W.heap.size)=>here_any base g l n x1 W hX ho1 (by omega) (by omega) hbW (by omega) (fun y W' hy hoy hdy hby=>value_any base g l n y W' hy hoy (by omega) (by omega) (by omega) hby (by omega)))
   obtain ⟨r,hr⟩:∃ r,r = valH (vald n l) l x1:=⟨_,rfl⟩
   rw [← hr] at HH hk ⊢
   have hq1:=hk.d0
   have hq2:=hk.d1
   clear hbb hr hk
   go_enter Tryz.func45,Tryz.ntmps45
   go_wp2_with fail
   refine HE.out.mono ?_
   rintro e w1 ⟨rfl,hX1,hG1⟩
   have HX1:=Aside0.mk hX1
   have HG1:=Aside0.mk hG1
   have hb1:base ≤ w1.heap.size:=by have:=hG1.size;omega
   clear hX1 hG1
   go_wp2_with fail
   refine (HH.out w1 HX1.out hb1).mono ?_
   rintro e w2 ⟨⟨v2,rfl,hR2⟩,hX2,hG2⟩
   have HR2:=Aside0.mk hR2
   have HX2:=Aside0.mk hX2
   have HG2:=Aside0.mk (grw_trans HG1.out hG2)
   clear hR2 hX2 hG2
   go_wp2_with fail
   refine (leave_any base g l r.2 w2 HX2.out (by omega) (by omega)).mono ?_
   rintro e w3 ⟨rfl,hX3,hG3⟩
   have HX3:=Aside0.mk hX3
   have HR3:=Aside0.mk (HX2.out.keep HR2.out hG3)
   have HG3:=Aside0.mk (grw_trans HG2.out hG3)
   clear hX3 hG3
   go_wp2_with fail
   go_ret
   exact ⟨⟨_,rfl,HR3.out⟩,HX3.out,HG3.out⟩
def PNodes (l:List S24) (g:Nat → Option (List S50 × Nat)):Prop:=∀ j r,g j = some r → r.1.length + j ≤ r.2 ∧ r.2 ≤ l.length
theorem plist_nodes {c:Int} (hc:c ≠ 1) {g:Nat → Option (List S50 × Nat)} {l:List S24} {bad:Bool} (hg:PNodes l g):∀ (k j:Nat) (acc:List (List S50)) (r:List (List S50) × Nat),plist c g l bad k j acc = some r → r.1.flatten.length + j + 1 ≤ acc.flatten.length + r.2 ∧ r.2 ≤ l.length
 | 0,j,acc,r,h=>by rw [plist] at h;cases h
 | k + 1,j,acc,r,h=>by
  rw [plist] at h
  split at h
  ·rename_i hk
   have hj:=kd_in (l:=l) (i:=j) (by rw [hk];exact hc)
   cases hp:pnext l bad j with
   | none=>rw [hp] at h;cases h
   | some j1=>
    rw [hp] at h
    obtain ⟨rfl,-⟩:=pnext_some hp
    injection h with h
    rw [← h]
    exact ⟨Nat.le_refl _,hj⟩
  ·cases hq:g j with
   | none=>rw [hq] at h;cases h
   | some q=>
    rw [hq] at h
    obtain ⟨h1,-⟩:=hg j q hq
    obtain ⟨h2,h3⟩:=plist_nodes hc hg k q.2 _ r h
    rw [flat_snoc] at h2
    exact ⟨by omega,h3⟩
theorem pleaf_nodes {l:List S24} {bad:Bool} {x:S50} {i:Nat} (hi:i < l.length) {r:List S50 × Nat} (h:pleaf x (pnext l bad i) = some r):r.1.length + i ≤ r.2 ∧ r.2 ≤ l.length:=by
 cases hp:pnext l bad i with
 | none=>rw [hp] at h;cases h
 | some j=>
  rw [hp] at h
  obtain ⟨rfl,-⟩:=pnext_some hp
  injection h with h
  rw [← h]
  exact ⟨by show (made x []).length + i ≤ i + 1;rw [made_len];simp;omega,hi⟩
theorem pfield_nodes {q:Int} {g:Nat → Option (List S50 × Nat)} {l:List S24} {bad:Bool} (hg:PNodes l g):PNodes l (pfield q g l bad):=by
 intro i r h
 cases ho:(if kd l i = 15 then pnext l bad i else none) with
 | none=>rw [pfield_no ho] at h;cases h
 | some j=>
  obtain ⟨he,-,hij⟩:=pfield_yes (q:=q) (g:=g) ho
  rw [he] at h
  cases ho2:(if kd l (j:Int) = 7 then pnext l bad j else none) with
  | none=>rw [ho2] at h;cases h
  | some m=>
   have hjm:j < m:=by
    split at ho2
    ·have:=(pnext_some ho2).1;omega
    ·cases ho2
   rw [ho2] at h
   have h:fstep1 q (rd_T24 l i).f1 (g m) = some r:=h
   cases hg2:g m with
   | none=>rw [hg2] at h;cases h
   | some x=>
    rw [hg2] at h
    obtain ⟨h1,h2⟩:=hg m x hg2
    injection h with h
    rw [← h]
    exact ⟨by show (made _ [x.1]).length + i ≤ x.2;rw [made_len];simp;omega,h2⟩
theorem pround_nodes {c q:Int} (hc:c ≠ 1) {g:Nat → Option (List S50 × Nat)} {l:List S24} {bad:Bool} (hg:PNodes l g) {i:Nat} {r:List S50 × Nat} (h:(match pround c g l bad i with | none=>none | some r=>some (made (nd q ⟨#[]⟩) r.1,r.2):Option (List S50 × Nat)) = some r):r.1.length + i ≤ r.2 ∧ r.2 ≤ l.length:=by
 cases hp:pround c g l bad i with
 | none=>rw [hp] at h;cases h
 | some x=>
  rw [hp] at h
  injection h with h
  unfold pround at hp
  cases hn:pnext l bad i with
  | none=>rw [hn] at hp;cases hp
  | some j=>
   rw [hn] at hp
   obtain ⟨rfl,-⟩:=pnext_some hn
   obtain ⟨h1,h2⟩:=plist_nodes hc hg _ _ _ x hp
   rw [← h]
   exact ⟨by show (made _ x.1).length + i ≤ x.2;rw [made_len];have h1:x.1.flatten.length + (i + 1) + 1 ≤ 0 + x.2:=h1;omega,h2⟩
theorem pval_nodes (l:List S24) (bad:Bool):∀ n,PNodes l (pval l bad n)
 | 0=>fun j r h=>by rw [pval] at h;cases h
 | n + 1=>fun i r h=>by
  have ih:=pval_nodes l bad n
  have hil:i < l.length:=by
   by_cases hl:i < l.length
   ·exact hl
   ·rw [pval_end l bad _ _ hl] at h;cases h
  by_cases h10:kd l i = 10
  ·rw [pval_10 h10] at h
   exact pround_nodes (by decide) ih h
  by_cases h12:kd l i = 12
  ·rw [pval_12 h12] at h
   exact pround_nodes (by decide) (pfield_nodes ih) h
  rw [pval,if_neg h10,if_neg h12] at h
  split at h
  ·exact pleaf_nodes hil h
  split at h
  ·exact pleaf_nodes hil h
  split at h
  ·exact pleaf_nodes hil h
  split at h
  ·split at h
   ·exact pleaf_nodes hil h
   split at h
   ·exact pleaf_nodes hil h
   split at h
   ·cases h
   ·exact pleaf_nodes hil h
  split at h
  ·cases hp:pnext l bad i with
   | none=>rw [hp] at h;cases h
   | some j=>
    rw [hp] at h
    obtain ⟨rfl,-⟩:=pnext_some hp
    dsimp only at h
    split at h
    ·rename_i h15
     have:=pleaf_nodes (kd_in (l:=l) (i:=i + 1) (by rw [h15];decide)) h
     omega
    ·cases h
  ·cases h
def ImplV (o:Option (List S50 × Nat)) (base:Nat) (e:Ending) (w':World):Prop:=
 match o with
 | none=>e = .returned (.tuple #[.slice none 0 0,.bool false])
 | some r=>∃ v,e = .returned (.tuple #[v,.bool true]) ∧ k50.R 50 w' base (fun _=>True) v r.1
set_option maxRecDepth 8000 in
set_option maxHeartbeats 2000000 in
theorem implParseValue_any (s:ByteArray) (l:List S24) (bad:Bool) (w:World) (hT:Lib.Utf8Tabs 1 2 w) (hs:s.size ≤ 2000) (hR:lexR s = (l,bad,false)) :
  Calls Tryz.prog 24 #[.string s] w fun e w'=>ImplV (pval l bad (l.length + 1) 0) w.heap.size e w' ∧ Below w.heap.size w w':=by
 have HD:=Aside0.mk (doorParseValue_any s l bad w hT hs hR)
 have hll:=lexR_length hs hR
 obtain ⟨o,ho⟩:∃ o,o = pval l bad (l.length + 1) 0:=⟨_,rfl⟩
 have hnd:∀ r,o = some r → r.1.length ≤ 2000:=fun r e=>by
  have:=pval_nodes l bad (l.length + 1) 0 r (ho.symm.trans e)
  omega
 rw [← ho] at HD ⊢
 have HND:=Aside0.mk hnd
 clear hT hR ho hnd
 go_enter Tryz.func24,Tryz.ntmps24
 go_wp2_with fail
 refine HD.out.mono ?_
 rintro e w1 ⟨h1,hb1⟩
 have HB1:=Aside0.mk hb1
 clear hb1
 cases o with
 | none=>
  obtain ⟨v,q,rfl,hv⟩:=h1
  rcases hv with rfl | ⟨T,rfl⟩
  ·go_wp2_with fail
   go_ret2
   exact ⟨rfl,HB1.out⟩
  ·go_wp2_with fail
   go_ret2
   exact ⟨rfl,HB1.out⟩
 | some r=>
  obtain ⟨I,p,t',rfl,hr,ha⟩:=h1
  have HREP:=Aside0.mk hr
  have HNN:=Aside0.mk (HND.out r rfl)
  clear hr ha
  have HTY:Aside0 (∀ W,Below w1.heap.size w1 W → W.heap[w1.heap.size]? = some (.cells #[.slice none 0 0,.slice none 0 0,.bool false] 87 (0,0)) → Calls Tryz.prog 48 #[.pointer (some ⟨w1.heap.size,0,none⟩),.iface I (ptr p)] W (Takes w.heap.size w1.heap.size [] r.1 W)):=
   ⟨fun W hW hE=>take_any w.heap.size w1.heap.size HREP.out [] W (KeepX.of_below hW) ⟨_,_,[],hE,HB1.out.size,Kd.R_nil _ _ _ _ _,Kd.R_nil _ _ _ _ _,rfl⟩ (Nat.le_trans HB1.out.size hW.size) (by have:=HNN.out;simp;omega)⟩
  go_wp2_with fail
  go_at_call 48
  refine (HTY.out _ (below_alloc (Below.refl _ _) _) (blk_new _ _)).mono ?_
  rintro e w2 ⟨rfl,hT2,hb2,hk2⟩
  obtain ⟨v1,v2,sp,hE,hg,r1,-,-⟩:=hT2
  have c0:=(blk_cell hE 0).trans rfl
  have c2:=(blk_cell hE 2).trans rfl
  have HR1:Aside0 (k50.R 50 w2 w.heap.size (fun _=>True) v1 r.1):=⟨r1⟩
  have HB2:=Aside0.mk ((below_then HB1.out HB1.out.size (below_alloc (Below.refl _ _) _)).trans hb2)
  have hgl:=blk_lt hE
  clear hE hg r1 hb2 hk2
  go_wp2_with fail
  go_region
  all_goals
   go_wp2_with fail
   go_ret2
   exact ⟨⟨v1,rfl,Kd.R_below HR1.out (pw_below_drewN (Below.refl _ _) 1)⟩,pw_below_drewN HB2.out 1⟩
set_option maxRecDepth 8000 in
set_option maxHeartbeats 4000000 in
theorem specParseValue_any (s:ByteArray) (w:World) (hs:s.size ≤ 2000) (l:List S24) (b u:Bool) (hR:lexR s = (l,b,u)) :
  Calls Tryz.prog 23 #[.string s] w fun e w'=>SpecV l b (vald 62 l ⟨0,0,0,false,false⟩) (!u && !(vald 62 l ⟨0,0,0,false,false⟩).2.unsure) w.heap.size e w' ∧ Below w.heap.size w w':=by
 have hL:=specLexed_any s w hs
 rw [hR] at hL
 have HL:=Aside0.mk hL
 have hll:=lexR_length hs hR
 have hok:PS.ok l ⟨0,0,0,false,false⟩:=⟨Int.le_refl _,by show (0:Int) ≤ _;omega,by omega⟩
 obtain ⟨R,hRR⟩:∃ R,R = vald 62 l ⟨0,0,0,false,false⟩:=⟨_,rfl⟩
 have hK:=vald_keeps l 62 _ hok
 rw [← hRR] at hK ⊢
 have k0:=hK.ok.a0
 have k1:=hK.ok.a1
 have HRR:=Aside0.mk hRR
 have HOK:=Aside0.mk hok
 clear hL hR hRR hok hK
 go_enter Tryz.func23,Tryz.ntmps23
 go_wp2_with fail
 refine HL.out.mono ?_
 rintro e w1 ⟨⟨v,rfl,hr⟩,hb⟩
 have hr:k24.R 24 w1 w.heap.size (fun _=>True) v l:=hr
 obtain ⟨A,c,rfl,hc,-⟩:=Kd.R_reads hr
 have HR1:=Aside0.mk hr
 have HB1:=Aside0.mk hb
 clear hr hb hc
 go_wp2_with fail
 obtain ⟨W2,hW2⟩:∃ W2,W2 = w1.alloc (.cells #[.slice A l.length c,.int .i64 0,.int .i64 0,.int .i64 0,.bool false,.bool false] 91):=⟨_,rfl⟩
 have hB2:Below w1.heap.size w1 W2:=by rw [hW2];exact below_alloc (Below.refl _ _) _
 have hE2:W2.heap[w1.heap.size]? = some (.cells #[.slice A l.length c,.int .i64 0,.int .i64 0,.int .i64 0,.bool false,.bool false] 91 (0,0)):=by rw [hW2];exact blk_new _ _
 rw [← hW2]
 clear hW2
 have HB2:=Aside0.mk (HB1.out.trans (hB2.mono HB1.out.size))
 have HR2:=Aside0.mk (Kd.R_below HR1.out hB2)
 have HE2:=Aside0.mk hE2
 have hPx:Px W2 w.heap.size w1.heap.size l ⟨0,0,0,false,false⟩:=⟨_,hE2,HB1.out.size,HR2.out⟩
 have hty:=value_any w.heap.size w1.heap.size l 62 ⟨0,0,0,false,false⟩ W2 hPx HOK.out (by decide) (by decide) (by decide) HB2.out.size (by omega)
 rw [← HRR.out] at hty
 have HTY:=Aside0.mk hty
 clear hB2 hE2 hPx hty
 refine HTY.out.mono ?_
 rintro e w3 ⟨⟨vd,rfl,hd⟩,hX3,hG3⟩
 have HRS:=Aside0.mk (fun (su:Bool)=>result_any w.heap.size w1.heap.size l R.2 vd su w3 hX3)
 obtain ⟨A2,cc2,hcc2,hCC2,c0,c1,c2,c3,c4,c5,fz⟩:=hX3.cells
 have HD:=Aside0.mk hd
 have HB3:Aside0 (Below w.heap.size w w3):=⟨HB2.out.trans (grw_base hG3 HB1.out.size HB2.out.size)⟩
 obtain ⟨AV,cV,hvd,-,-⟩:=Kd.R_reads hd
 obtain ⟨o,ra,rd,rw,rb,ru⟩:=R
 dsimp only at c0 c1 c2 c3 c4 c5 k0 k1
 clear hX3 hG3 hd hCC2 hcc2 c0 c2 c3 c5
 by_cases hat:ra < (l.length:Int)
 ·have hatb:decide (ra < (l.length:Int)) = true:=decide_eq_true hat
  cases b <;> cases rb
  all_goals
   go_wp2_with fail
   go_ret3
   exact ⟨.inl rfl,HB3.out⟩
 ·have hatb:decide (ra < (l.length:Int)) = false:=decide_eq_false hat
  have HAE:Aside0 (ra = l.length):=⟨by omega⟩
  cases rb with
  | true=>
   cases b
   all_goals
    subst hvd
    go_wp2_with fail
    refine (HRS.out _).mono ?_
    rintro e w4 ⟨he,hb4⟩
    first | rw [if_pos rfl] at he | rw [if_pos trivial] at he
    subst he
    have HB4:=Aside0.mk (HB3.out.trans (hb4.mono HB3.out.size))
    clear hb4
    go_wp2_with fail
    go_ret3
    exact ⟨.inr (.inl ⟨rfl,rfl⟩),HB4.out⟩
  | false=>
   cases b with
   | true=>
    go_wp2_with fail
    go_ret3
    exact ⟨.inl rfl,HB3.out⟩
   | false=>
    subst hvd
    go_wp2_with fail
    refine (HRS.out _).mono ?_
    rintro e w4 ⟨he,hb4⟩
    first | rw [if_neg (by decide)] at he | rw [if_neg not_false] at he
    subst he
    have HD4:=Aside0.mk (Kd.R_below HD.out hb4)
    have HB4:=Aside0.mk (HB3.out.trans (hb4.mono HB3.out.size))
    clear hb4
    go_wp2_with fail
    go_ret3
    exact ⟨.inr (.inr ⟨rfl,HAE.out,rfl,_,rfl,HD4.out⟩),HB4.out⟩
set_option maxRecDepth 4000 in
set_option maxHeartbeats 4000000 in
theorem lawParseValue_any (s:ByteArray) (w:World) (hT:Lib.Utf8Tabs 1 2 w) :
  Calls Tryz.prog 7 #[.string s] w fun e w'=>e = .returned (.bool true) ∧ Below w.heap.size w w':=by
 have HT:=Aside0.mk hT
 clear hT
 rcases Int.lt_or_le 2147483647 (s.size:Int) with hbig | hbig
 ·have b1:decide ((s.size:Int) > 2147483647) = true:=decide_eq_true (by omega)
  go_enter Tryz.func7,Tryz.ntmps7
  go_wp2_with fail
  go_ret
  exact ⟨rfl,Below.refl _ _⟩
 have b1:decide ((s.size:Int) > 2147483647) = false:=decide_eq_false (by omega)
 rcases Int.lt_or_le 2000 (s.size:Int) with hsm | hsm
 ·have b2:decide ((s.size:Int) > 2000) = true:=decide_eq_true (by omega)
  go_enter Tryz.func7,Tryz.ntmps7
  go_wp2_with fail
  go_ret
  exact ⟨rfl,Below.refl _ _⟩
 have b2:decide ((s.size:Int) > 2000) = false:=decide_eq_false (by omega)
 have hs:s.size ≤ 2000:=by omega
 obtain ⟨bb,hbb⟩:=PFnReadString.utf8_tells s (by omega)
 have HBB:=Aside0.mk (PFnReadString.spec_UTF8.calls 100100 s bb w (hbb _ (by omega)))
 clear hbb
 obtain ⟨⟨l,b,u⟩,hR⟩:∃ R,R = lexR s:=⟨_,rfl⟩
 have hll:=lexR_length hs hR.symm
 have hA:(vald 62 l ⟨0,0,0,false,false⟩).2.unsure = false → Agree l b (vald 62 l ⟨0,0,0,false,false⟩) (pval l b (l.length + 1) 0):=fun h=>val_agree hll 62 (l.length + 1) ⟨0,0,0,false,false⟩ 0 rfl rfl (Nat.zero_le _) (by decide) (by omega) h
 have HSP:=Aside0.mk (fun W=>specParseValue_any s W hs l b u hR.symm)
 have HIM:Aside0 (∀ W,Lib.Utf8Tabs 1 2 W → u = false → Calls Tryz.prog 24 #[.string s] W fun e w'=>ImplV (pval l b (l.length + 1) 0) W.heap.size e w' ∧ Below W.heap.size W w'):=
  ⟨fun W hW hu=>implParseValue_any s l b W hW hs (by rw [← hR,hu])⟩
 obtain ⟨R,hRR⟩:∃ R,R = vald 62 l ⟨0,0,0,false,false⟩:=⟨_,rfl⟩
 obtain ⟨o,ho⟩:∃ o,o = pval l b (l.length + 1) 0:=⟨_,rfl⟩
 have hnd:∀ r,o = some r → r.1.length ≤ 2000:=fun r e=>by
  have:=pval_nodes l b (l.length + 1) 0 r (ho.symm.trans e)
  omega
 rw [← hRR] at HSP hA
 rw [← ho] at HIM hA
 have HA:=Aside0.mk hA
 have HND:=Aside0.mk hnd
 obtain ⟨sure,hsu⟩:∃ x,x = (!u && !R.2.unsure):=⟨_,rfl⟩
 rw [← hsu] at HSP
 have HSU:=Aside0.mk hsu
 clear hsu hA hnd ho hRR hR
 go_enter Tryz.func7,Tryz.ntmps7
 go_wp2_with fail
 refine HBB.out.mono ?_
 rintro e w1 ⟨rfl,⟨m,rfl⟩⟩
 have HB1:=Aside0.mk (pw_below_drewN (Below.refl w.heap.size w) m)
 cases bb with
 | false=>
  go_wp2_with fail
  go_ret
  exact ⟨rfl,HB1.out⟩
 | true=>
 go_wp2_with fail
 refine (HSP.out _).mono ?_
 rintro e w2 ⟨h1,hb2⟩
 have HBB2:=Aside0.mk (HB1.out.trans (hb2.mono HB1.out.size))
 clear hb2
 rcases h1 with rfl | ⟨hb,rfl⟩ | ⟨hbf,hae,hbb,v1,rfl,hv1⟩
 ·go_wp2_with fail
  go_ret
  exact ⟨rfl,HBB2.out⟩
 ·cases sure with
  | false=>
   go_wp2_with fail
   go_ret
   exact ⟨rfl,HBB2.out⟩
  | true=>
  have hu2:u = false ∧ R.2.unsure = false:=by have:=HSU.out;revert this;cases u <;> cases R.2.unsure <;> simp
  have hno:o = none:=by
   have:=HA.out hu2.2
   cases o with
   | none=>rfl
   | some r=>
    exfalso
    have h:=this.1
    rw [hb] at h
    cases h
  subst hno
  have HIM2:=Aside0.mk (HIM.out w2 (tabs_below HT.out HBB2.out) hu2.1)
  clear hu2 HIM HSU hb
  go_wp2_with fail
  refine HIM2.out.mono ?_
  rintro e w3 ⟨h2,hb3⟩
  have HBB3:=Aside0.mk (HBB2.out.trans (hb3.mono HBB2.out.size))
  clear hb3
  obtain rfl:e = .returned (.tuple #[.slice none 0 0,.bool false]):=h2
  go_wp2_with fail
  go_ret
  exact ⟨rfl,HBB3.out⟩
 ·have HV1:=Aside0.mk hv1
  obtain ⟨A1,c1,rfl,-,-⟩:=Kd.R_reads hv1
  cases sure with
  | false=>
   clear hv1
   go_wp2_with fail
   go_ret
   exact ⟨rfl,HBB2.out⟩
  | true=>
  have hu2:u = false ∧ R.2.unsure = false:=by have:=HSU.out;revert this;cases u <;> cases R.2.unsure <;> simp
  have hsome:∃ r,o = some r ∧ R.1.map S50.flat = r.1.map S50.flat:=by
   have:=HA.out hu2.2
   cases o with
   | none=>
    exfalso
    rcases this with h | ⟨h,-⟩
    ·rw [hbf] at h;cases h
    ·rw [hbb] at h;cases h
   | some r=>exact ⟨r,rfl,this.2.1⟩
  obtain ⟨r,rfl,hfl⟩:=hsome
  have HFL:=Aside0.mk hfl
  have HNR:=Aside0.mk (HND.out r rfl)
  have HIM2:=Aside0.mk (HIM.out w2 (tabs_below HT.out HBB2.out) hu2.1)
  clear hu2 HIM HSU hbf hbb hae hfl HND HA hv1
  go_wp2_with fail
  refine HIM2.out.mono ?_
  rintro e w3 ⟨h2,hb3⟩
  have HBB3:=Aside0.mk (HBB2.out.trans (hb3.mono HBB2.out.size))
  obtain ⟨A1',c1',he1,-,C1⟩:=Kd.R_reads (Kd.R_below HV1.out hb3)
  obtain ⟨rfl,rfl⟩:A1 = A1' ∧ c1 = c1':=by injection he1 with h1 h2 h3;exact ⟨h1,h3⟩
  obtain ⟨v2,rfl,r2⟩:=h2
  obtain ⟨A2,c2,rfl,-,C2⟩:=Kd.R_reads r2
  have HSD:=Aside0.mk (sameFlat_any r.1 R.1 A2 A1 c2 c1 w3 C2 C1 (by have:=HNR.out;omega) HFL.out.symm)
  clear hb3 he1 C1 C2 r2
  go_wp2_with fail
  refine HSD.out.mono ?_
  rintro e w4 ⟨rfl,hb4⟩
  have HB4:=Aside0.mk (HBB3.out.trans (hb4.mono HBB3.out.size))
  clear hb4
  go_wp2_with fail
  go_ret
  exact ⟨rfl,HB4.out⟩
end Go.Proofs.YtbobbognjmofdaaGreatDoor.Lex
end
