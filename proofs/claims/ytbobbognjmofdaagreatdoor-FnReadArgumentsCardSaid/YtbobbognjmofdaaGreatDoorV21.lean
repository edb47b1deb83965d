import Derived.Test.YtbobbognjmofdaaGreatDoorV20
import Derived.Test.YtbobbognjmofdaaGreatDoorV04
section
namespace Go.Proofs.YtbobbognjmofdaaGreatDoor.Lex
open Go.RowKit Go.Proofs.YtbobbognjmofdaaGreatDoorW.PrintWords Go.Proofs.YtbobbognjmofdaaGreatDoorW.PrintLast Go.Proofs.YtbobbognjmofdaaGreatDoorW.PrintMore
open Go.Proofs.YtbobbognjmofdaaGreatDoor.Ptext
set_option linter.unusedVariables false
set_option linter.unusedSimpArgs false
theorem lexd_starts (s:ByteArray) (hpt:∀ p:Int,0 ≤ p → p < s.size → ((ptS s p).2 = 0 ∨ 1 ≤ (ptS s p).2 ∧ (ptS s p).2 ≤ 4 ∧ p + (ptS s p).2 ≤ s.size)) :
  ∀ (k:Nat) (p:Int) (u:Bool) (l:List S24),0 ≤ p → p ≤ s.size → (∀ t,t ∈ l → 0 ≤ t.f2 ∧ t.f2 ≤ s.size) → ∀ t,t ∈ (lexd s k p u l).1 → 0 ≤ t.f2 ∧ t.f2 ≤ s.size
 | 0,p,u,l,h0,hp,hl,t,ht=>hl t ht
 | k + 1,p,u,l,h0,hp,hl,t,ht=>by
  rw [lexd] at ht
  by_cases hz:(s.size:Int) ≤ p
  ·rw [if_pos hz] at ht
   exact hl t ht
  rw [if_neg hz] at ht
  have hf:=stp_fits s hpt p u h0 (by omega)
  cases hx:stp s p u with
  | skip q v=>
   rw [hx] at hf ht
   obtain ⟨h4,h5⟩:=hf
   exact lexd_starts s hpt k q v l (by omega) h5 hl t ht
  | bad q v=>
   rw [hx] at ht
   exact hl t ht
  | tok a b c d=>
   rw [hx] at hf ht
   obtain ⟨h4,h5⟩:=hf
   refine lexd_starts s hpt k c d _ (by omega) h5 (fun x hm=>?_) t ht
   rcases List.mem_append.1 hm with h | h
   ·exact hl x h
   ·rw [List.mem_singleton.1 h];exact ⟨h0,hp⟩
structure Ctx (E:PE) (l:List S24) (bad:Bool):Prop where
 hpt:∀ p:Int,0 ≤ p → p < E.s.size → ((ptS E.s p).2 = 0 ∨ 1 ≤ (ptS E.s p).2 ∧ (ptS E.s p).2 ≤ 4 ∧ p + (ptS E.s p).2 ≤ E.s.size)
 st:∀ t,t ∈ l → 0 ≤ t.f2 ∧ t.f2 ≤ E.s.size
 ss:E.s.size ≤ 2000
 ll:l.length ≤ 2000
theorem Ctx.of {E:PE} {l:List S24} {bad:Bool} (hs:E.s.size ≤ 2000) (hR:lexR E.s = (l,bad,false)):Ctx E l bad:=by
 have hpt:=fun p h1 h2=>(pt_tells E.s (by omega) p h1 h2).2
 refine ⟨hpt,?_,hs,lexR_length hs hR⟩
 have:=lexd_starts E.s hpt (E.s.size + 1) 0 false [] (Int.le_refl _) (by omega) (by simp)
 rw [show lexd E.s (E.s.size + 1) 0 false [] = lexR E.s from rfl,hR] at this
 exact this
theorem Ctx.start {E:PE} {l:List S24} {bad:Bool} (C:Ctx E l bad) {i:Nat} {t:S24} (hat:At E.s l bad i t):0 ≤ t.f2 ∧ t.f2 ≤ 2000:=by
 have hs:=C.ss
 rcases hat with ⟨h,-⟩ | ⟨-,-,rfl⟩
 ·obtain ⟨hl,rfl⟩:=List.getElem?_eq_some_iff.1 h
  have:=C.st _ (List.getElem_mem hl)
  omega
 ·exact ⟨by show (0:Int) ≤ (E.s.size:Int);omega,by show (E.s.size:Int) ≤ 2000;omega⟩
theorem At.pn {s:ByteArray} {l:List S24} {bad:Bool} {i:Nat} {t:S24} (h:At s l bad (i + 1) t):pnext l bad i = some (i + 1):=by
 unfold pnext
 rw [if_neg]
 rintro ⟨h1,h2⟩
 rcases h with ⟨h,-⟩ | ⟨-,h,-⟩
 ·have:=(List.getElem?_eq_some_iff.1 h).1;omega
 ·rw [h2] at h;cases h
theorem at_step {E:PE} {l:List S24} {bad:Bool} (C:Ctx E l bad) {i:Nat} {t:S24} (hat:At E.s l bad i t) (hk:t.f0 ≠ 1) :
  0 ≤ t.f3 ∧ t.f3 ≤ E.s.size ∧ ∃ (K:Nat) (N:Option S24),(E.s.size:Int) < t.f3 + K ∧ nxt E.s K t.f3 false = (N,false) ∧ ((pnext l bad i = none ∧ N = none) ∨ ∃ t',pnext l bad i = some (i + 1) ∧ N = some t' ∧ At E.s l bad (i + 1) t'):=by
 obtain ⟨h0,h1,K,N,h2,h3,h4⟩:=at_next C.hpt hat hk
 refine ⟨h0,h1,K,N,h2,h3,?_⟩
 rcases h4 with ⟨a,b,c⟩ | ⟨t',a,b⟩
 ·exact .inl ⟨by unfold pnext;rw [if_pos ⟨c,b⟩],a⟩
 ·exact .inr ⟨t',b.pn,a,b⟩
theorem Adv.then_below {E:PE} {w wr w1:World} (h:Adv E w wr) (hb:Below w.heap.size wr w1):Adv E w w1:=
 ⟨hb.os.trans h.os,hb.tape.trans h.tape,hb.output.trans h.output,Nat.le_trans h.size hb.size,fun k h1 h2 h3=>(hb.block k h1).trans (h.block k h1 h2 h3),fun a ha=>by
  obtain ⟨b,hb1⟩:=h.start a ha
  have hP:E.P < w.heap.size:=World.block_lt_of_cell? w _ ha
  exact ⟨b,(World.cell?_of_block (a:=⟨E.P,6,none⟩) (hb.block E.P hP)).trans hb1⟩⟩
theorem Pk.then_below {E:PE} {W1 W W2:World} {t:S24} {pe:Int} {base:Nat} (h:Pk E W1 W t pe) (hb:Below base W W2) (h0:W1.heap.size ≤ base) (h1:E.P < base) (h2:E.pb < base) (h3:E.sb < base):Pk E W1 W2 t pe:=
 { h with parser:=(hb.block _ h1).trans h.parser,place:=(hb.block _ h2).trans h.place,source:=(hb.block _ h3).trans h.source,below:=h.below.trans (hb.mono h0) }
def AdvP (E:PE) (W1:World) (l:List S24) (bad:Bool) (pe:Int) (o:Option Nat) (e:Ending) (w':World):Prop:=
 match o with
 | none=>∃ q,e = .returned (.iface 182 (ptr q))
 | some j=>e = .returned .nilIface ∧ ∃ t',At E.s l bad j t' ∧ Pk E W1 w' t' pe
def TupP (E:PE) (W1:World) (l:List S24) (bad:Bool) (pe:Int) (o:Option Nat) (v:Value) (e:Ending) (w':World):Prop:=
 match o with
 | none=>∃ q,e = .returned (.tuple #[v,.iface 182 (ptr q)])
 | some j=>e = .returned (.tuple #[v,.nilIface]) ∧ ∃ t',At E.s l bad j t' ∧ Pk E W1 w' t' pe
theorem advance_at {E:PE} {l:List S24} {bad:Bool} (C:Ctx E l bad) (W1 w:World) {i:Nat} {t:S24} (pe:Int) (h:Pk E W1 w t pe) (hat:At E.s l bad i t) (hk:t.f0 ≠ 1) :
  Calls Tryz.prog 116 #[ptr E.P] w fun e w'=>AdvP E W1 l bad t.f3 (pnext l bad i) e w' ∧ Adv E w w':=by
 obtain ⟨h0,h1,K,N,h2,h3,h4⟩:=at_step C hat hk
 refine (advance_any E W1 w t pe N K h h0 h1 h2 h3).mono ?_
 rintro e w' ⟨ha,ad⟩
 refine ⟨?_,ad⟩
 rcases h4 with ⟨h4,rfl⟩ | ⟨t',h4,rfl,h5⟩
 ·rw [h4];exact ha
 ·rw [h4];exact ⟨ha.1,t',h5,ha.2⟩
theorem skip_at {E:PE} {l:List S24} {bad:Bool} (C:Ctx E l bad) (W1 w:World) {i:Nat} {t:S24} (pe:Int) (h:Pk E W1 w t pe) (hat:At E.s l bad i t) (hk:t.f0 ≠ 1) :
  Calls Tryz.prog 120 #[ptr E.P,.int .i64 t.f0] w fun e w'=>TupP E W1 l bad t.f3 (pnext l bad i) (.bool true) e w' ∧ Adv E w w':=by
 obtain ⟨h0,h1,K,N,h2,h3,h4⟩:=at_step C hat hk
 refine (skip_yes E W1 w t pe N K h h0 h1 h2 h3).mono ?_
 rintro e w' ⟨ha,ad⟩
 refine ⟨?_,ad⟩
 rcases h4 with ⟨h4,rfl⟩ | ⟨t',h4,rfl,h5⟩
 ·rw [h4];exact ha
 ·rw [h4];exact ⟨ha.1,t',h5,ha.2⟩
theorem loc2_any (E:PE) (W1 w:World) (t:S24) (pe st:Int) (h:Pk E W1 w t pe) :
  Calls Tryz.prog 118 #[ptr E.P,.int .i64 st] w fun e w'=>(∃ p,e = .returned (ptr p) ∧ w.heap.size ≤ p ∧ LocAt w' p) ∧ Below w.heap.size w w':=by
 have c1:=(blk_cell h.parser 1).trans rfl
 have c2:=(blk_cell h.parser 2).trans rfl
 have c3:=(blk_cell h.parser 3).trans rfl
 have c4:=(blk_cell h.parser 4).trans rfl
 clear h
 go_enter Tryz.func118,Tryz.ntmps118
 go_wp2_with fail
 go_region_with (go_at_call 151;refine (newLoc_any _ st pe (some ⟨E.g,0,none⟩) _ ?_).mono ?_;(first | exact blk_new _ _ | (have:=blk_new w.drew (.cells #[.int .i64 st,.int .i64 pe,.pointer (some ⟨E.g,0,none⟩)] 207);simpa using this));rintro e w2 ⟨⟨p,rfl,hp1,hp2⟩,hb2⟩;have HP:=Aside0.mk hp2;have HP1:=Aside0.mk hp1;have HB:=Aside0.mk hb2;clear hp2 hb2 hp1)
 all_goals
  go_wp2_with fail
  go_ret
  exact ⟨⟨p,rfl,by have:=HP1.out;simp at this;omega,HP.out⟩,(below_drew (below_alloc (Below.refl w.heap.size w) _)).trans (HB.out.mono (by simp))⟩
theorem Pk.sourced {E:PE} {W1 W:World} {t:S24} {pe:Int} (h:Pk E W1 W t pe):W.cell? ⟨E.g,0,none⟩ = some (.slice (some ⟨E.b,0,none⟩) E.s.size E.c) ∧ Src W E.b E.c E.s:=⟨PFnReadString.old_cell h.below h.body,h.src.below h.below⟩
set_option maxHeartbeats 1000000 in
theorem expect_no {E:PE} {l:List S24} {bad:Bool} (C:Ctx E l bad) (W1 w:World) {i:Nat} {t:S24} (pe k:Int) (h:Pk E W1 w t pe) (hat:At E.s l bad i t) (hk:t.f0 ≠ k) :
  Calls Tryz.prog 157 #[ptr E.P,.int .i64 k] w fun e w'=>(∃ q,e = .returned (.tuple #[tk t.f0 t.f2 t.f3 t.f1,.iface 182 (ptr q)])) ∧ Below w.heap.size w w':=by
 obtain ⟨s0,s1⟩:=C.start hat
 obtain ⟨g1,g2⟩:=h.sourced
 have HSY:=Aside0.mk (fun W (hb:Below w.heap.size w W) (d:ByteArray)=>PFnReadString.synErr_any E.s E.g (some ⟨E.b,0,none⟩) E.c t.f2 d W (PFnReadString.old_cell hb g1) (g2.below hb).cells g2.le C.ss s0 s1)
 have c1:=(blk_cell h.parser 1).trans rfl
 have c5:=(blk_cell h.parser 5).trans rfl
 have c6:=(blk_cell h.parser 6).trans rfl
 have c7:=(blk_cell h.parser 7).trans rfl
 have c8:=(blk_cell h.parser 8).trans rfl
 have k0:(t.f0 == k) = false:=by simpa using hk
 have hPl:=blk_lt h.parser
 clear h hk g1 g2 hat C s0 s1
 obtain ⟨t0,t1,t2,t3⟩:=t
 go_enter Tryz.func157,Tryz.ntmps157
 go_wp2_with fail
 go_region_with (go_at_call 96;refine (HSY.out _ ?_ _).mono ?_;(first | exact below_drew (below_alloc (below_alloc (Below.refl _ _) _) _));rintro e w2 ⟨⟨q,rfl⟩,hb2⟩;have e0:=blk_below (blk_below (blk_alloc (blk_new w _) _) (below_drew (Below.refl _ _))) hb2;have e1:=blk_below (blk_below (blk_new2 w _ _) (below_drew (Below.refl _ _))) hb2;have a0:=(blk_cell e0 0).trans rfl;have a1:=(blk_cell e0 1).trans rfl;have a2:=(blk_cell e0 2).trans rfl;have a3:=(blk_cell e0 3).trans rfl;have fa:=fun j=>blk_frozen e0 j;have b0:=(blk_cell e1 0).trans rfl;have b1:=(blk_cell e1 1).trans rfl;have b2:=(blk_cell e1 2).trans rfl;have b3:=(blk_cell e1 3).trans rfl;have E0:=Aside0.mk e0;have HB2:=Aside0.mk hb2;clear hb2 e0 e1)
 all_goals
  go_wp2_with fail
  obtain ⟨q0,q1,q2,q3⟩:=res4 E0.out (.int .i64 t0) (.int .i64 t2) (.int .i64 t3) (.string t1)
  refine bodyPost_ret (v:=.tuple #[tk t0 t2 t3 t1,.iface 182 (.pointer (some ⟨q,0,none⟩))]) (by simp [results,Tryz.results157,go_sem,q0,q1,q2,q3]) rfl ⟨?_,?_⟩
  ·exact ⟨q,rfl⟩
  ·have hb3:Below w.heap.size w w2:=(below_drew (below_alloc (below_alloc (Below.refl w.heap.size w) _) _)).trans (HB2.out.mono (by simp;omega))
   exact set4_below hb3 (Nat.le_refl _) _ _ _ _
theorem expect_at {E:PE} {l:List S24} {bad:Bool} (C:Ctx E l bad) (W1 w:World) {i:Nat} {t:S24} (pe k:Int) (h:Pk E W1 w t pe) (hat:At E.s l bad i t) (hk:k ≠ 1) :
  Calls Tryz.prog 157 #[ptr E.P,.int .i64 k] w fun e w'=>TupP E W1 l bad t.f3 (if kd l i = k then pnext l bad i else none) (tk t.f0 t.f2 t.f3 t.f1) e w' ∧ Adv E w w':=by
 rw [hat.kd]
 by_cases hkt:t.f0 = k
 ·rw [if_pos hkt]
  subst hkt
  obtain ⟨h0,h1,K,N,h2,h3,h4⟩:=at_step C hat hk
  refine (expect_yes E W1 w t pe N K h h0 h1 h2 h3).mono ?_
  rintro e w' ⟨ha,ad⟩
  refine ⟨?_,ad⟩
  rcases h4 with ⟨h4,rfl⟩ | ⟨t',h4,rfl,h5⟩
  ·rw [h4];exact ha
  ·rw [h4];exact ⟨ha.1,t',h5,ha.2⟩
 ·rw [if_neg hkt]
  refine (expect_no C W1 w pe k h hat hkt).mono ?_
  rintro e w' ⟨ha,hb⟩
  exact ⟨ha,Adv.of_below hb⟩
theorem eqA58 (d:Nat) (w:World) (x0 y0 x1 y1 x2 y2:Int) (x3 y3:ByteArray) :
  (Op.equalIn (d + 2) 58 (.agg #[.int .i64 x0,.int .i64 x1,.int .i64 x2,.string x3]) (.agg #[.int .i64 y0,.int .i64 y1,.int .i64 y2,.string y3])).run Tryz.prog w = .ok (x0 == y0 && (x1 == y1 && (x2 == y2 && (x3.toList == y3.toList)))) w:=by
 refine eqA_of Tryz.underlying58 (by kernel_rfl) ?_
 refine eqf_cons (by rfl) (by go_simp;rfl) (by go_simp;rfl) (by go_simp) ?_
 refine eqf_cons (by rfl) (by go_simp;rfl) (by go_simp;rfl) (by go_simp) ?_
 refine eqf_cons (by rfl) (by go_simp;rfl) (by go_simp;rfl) (by go_simp) ?_
 exact eqf_last (by rfl) (by go_simp;rfl) (by go_simp;rfl) (by go_simp)
theorem eql58 (w:World):(binOp .eql 58 (.agg #[.int .i64 0,.int .i64 0,.int .i64 0,.string ⟨#[]⟩]) (.agg #[.int .i64 0,.int .i64 0,.int .i64 0,.string ⟨#[]⟩])).run Tryz.prog w = .ok (.bool true) w:=by
 have:=eqA58 9998 w 0 0 0 0 0 0 ⟨#[]⟩ ⟨#[]⟩
 simp only [binOp]
 simp [Op.equal,Op.maxDepth,this]
set_option maxHeartbeats 1000000 in
theorem unexpected_any {E:PE} {l:List S24} {bad:Bool} (C:Ctx E l bad) (W1 w:World) {i:Nat} {t:S24} (pe:Int) (h:Pk E W1 w t pe) (hat:At E.s l bad i t) :
  Calls Tryz.prog 131 #[ptr E.P,.agg #[.int .i64 0,.int .i64 0,.int .i64 0,.string ⟨#[]⟩]] w fun e w'=>(∃ q,e = .returned (.iface 182 (ptr q))) ∧ Below w.heap.size w w':=by
 obtain ⟨s0,s1⟩:=C.start hat
 obtain ⟨g1,g2⟩:=h.sourced
 have HSY:=Aside0.mk (fun W (hb:Below w.heap.size w W) (d:ByteArray)=>PFnReadString.synErr_any E.s E.g (some ⟨E.b,0,none⟩) E.c t.f2 d W (PFnReadString.old_cell hb g1) (g2.below hb).cells g2.le C.ss s0 s1)
 have c1:=(blk_cell h.parser 1).trans rfl
 have c5:=(blk_cell h.parser 5).trans rfl
 have c6:=(blk_cell h.parser 6).trans rfl
 have c7:=(blk_cell h.parser 7).trans rfl
 have c8:=(blk_cell h.parser 8).trans rfl
 have hPl:=blk_lt h.parser
 have q:=eql58
 clear h g1 g2 hat C s0 s1
 obtain ⟨t0,t1,t2,t3⟩:=t
 go_enter Tryz.func131,Tryz.ntmps131
 go_wp2_with fail
 go_region_with (go_at_call 96;refine (HSY.out _ ?_ _).mono ?_;(first | exact below_drew (below_alloc (below_alloc (Below.refl _ _) _) _));rintro e w2 ⟨⟨q,rfl⟩,hb2⟩;have HB2:=Aside0.mk hb2;clear hb2)
 all_goals
  go_wp2_with fail
  go_ret
  exact ⟨⟨q,rfl⟩,(below_drew (below_alloc (below_alloc (Below.refl w.heap.size w) _) _)).trans (HB2.out.mono (by simp;omega))⟩
def NameP (E:PE) (W1:World) (l:List S24) (bad:Bool) (t:S24) (lo:Nat) (o:Option Nat) (e:Ending) (w':World):Prop:=
 match o with
 | none=>∃ q,e = .returned (.tuple #[.pointer none,.iface 182 (ptr q)])
 | some j=>(∃ r,e = .returned (.tuple #[ptr r,.nilIface]) ∧ lo ≤ r ∧ NameAt w' r t.f1) ∧ ∃ t',At E.s l bad j t' ∧ Pk E W1 w' t' t.f3
set_option maxHeartbeats 4000000 in
theorem name_at {E:PE} {l:List S24} {bad:Bool} (C:Ctx E l bad) (W1 w:World) {i:Nat} {t:S24} (pe:Int) (h:Pk E W1 w t pe) (hat:At E.s l bad i t) :
  Calls Tryz.prog 152 #[ptr E.P] w fun e w'=>NameP E W1 l bad t w.heap.size (if kd l i = 15 then pnext l bad i else none) e w' ∧ Adv E w w':=by
 have HX:=Aside0.mk (expect_at C W1 w pe 15 h hat (by decide))
 obtain ⟨o,ho⟩:∃ o,o = (if kd l i = 15 then pnext l bad i else none):=⟨_,rfl⟩
 rw [← ho] at HX ⊢
 clear h hat ho C
 obtain ⟨t0,t1,t2,t3⟩:=t
 go_enter Tryz.func152,Tryz.ntmps152
 go_wp2_with fail
 refine HX.out.mono ?_
 rintro e w2 ⟨h2,ad⟩
 have AD:=Aside0.mk ad
 have hz2:=ad.size
 clear ad
 cases o with
 | none=>
  obtain ⟨q,rfl⟩:=h2
  go_wp2_with fail
  go_ret2
  exact ⟨⟨q,rfl⟩,AD.out.trans (Adv.of_below (below_alloc (Below.refl _ _) _))⟩
 | some j=>
  obtain ⟨rfl,t',hat',hp⟩:=h2
  have HP:=Aside0.mk hp
  have HAT:=Aside0.mk hat'
  clear hp hat'
  go_wp2_with fail
  obtain ⟨W2,hW2⟩:∃ W2,W2 = w2.alloc (.cells #[.int .i64 t0,.int .i64 t2,.int .i64 t3,.string t1] 58):=⟨_,rfl⟩
  have hE:W2.heap[w2.heap.size]? = some (.cells #[.int .i64 t0,.int .i64 t2,.int .i64 t3,.string t1] 58 (0,0)):=by rw [hW2];exact blk_new _ _
  have hB:Below w2.heap.size w2 W2:=by rw [hW2];exact below_alloc (Below.refl _ _) _
  rw [← hW2]
  clear hW2
  have HB2:=Aside0.mk hB
  have HE:=Aside0.mk hE
  have HLC:=Aside0.mk (fun W (hb:Below W2.heap.size W2 W)=>loc2_any E W1 W t' t3 t2 ((HP.out.keep hB).keep hb))
  have k1:=(blk_cell hE 1).trans rfl
  have k3:=(blk_cell hE 3).trans rfl
  have hl2:=blk_lt hE
  clear hE hB
  go_region_with (first | (go_at_call 118;refine (HLC.out _ ?_).mono ?_;(first | exact below_drew (Below.refl _ _));rintro e w3 ⟨⟨p,rfl,-,hp⟩,hb3⟩;have hB3:Below W2.heap.size W2 w3:=(below_drew (Below.refl W2.heap.size W2)).trans hb3;have e3:=blk_below HE.out hB3;have j1:=(blk_cell e3 1).trans rfl;have j3:=(blk_cell e3 3).trans rfl;have HB3:=Aside0.mk hB3;have HL3:=Aside0.mk hp;clear hb3 hB3 e3 hp) | (go_at_call 178;refine (newName_any _ _ _ _ _ (blk_new _ _)).mono ?_;rintro e w4 ⟨rfl,rfl⟩))
  all_goals
   go_wp2_with fail
   go_ret2
   have hb3:Below w2.heap.size w2 w3:=HB2.out.trans (HB3.out.mono HB2.out.size)
   have hz3:w2.heap.size ≤ w3.heap.size:=hb3.size
   first
   | exact ⟨⟨⟨_,rfl,by omega,⟨_,_,blk_new _ _⟩⟩,t',HAT.out,HP.out.keep (hb3.alloc hz3 _)⟩,AD.out.trans (Adv.of_below (hb3.alloc hz3 _))⟩
   | exact ⟨⟨⟨_,rfl,by omega,⟨_,_,(blk_set (blk_new _ _) 0 _).trans rfl⟩⟩,t',HAT.out,HP.out.keep ((hb3.alloc hz3 _).setCell hz3 _)⟩,AD.out.trans (Adv.of_below ((hb3.alloc hz3 _).setCell hz3 _))⟩
def IfV (v:Value):Prop:=v = .nilIface ∨ ∃ T,v = .iface T (.pointer none)
def ValP (E:PE) (W1:World) (l:List S24) (bad:Bool) (lo:Nat) (o:Option (List S50 × Nat)) (e:Ending) (w':World):Prop:=
 match o with
 | none=>∃ v q,e = .returned (.tuple #[v,.iface 182 (ptr q)]) ∧ IfV v
 | some r=>∃ I p t' pe',e = .returned (.tuple #[.iface I (ptr p),.nilIface]) ∧ RepV w' (fun k=>lo ≤ k) r.1 I p ∧ At E.s l bad r.2 t' ∧ Pk E W1 w' t' pe'
def PtrP (E:PE) (W1:World) (l:List S24) (bad:Bool) (lo I:Nat) (o:Option (List S50 × Nat)) (e:Ending) (w':World):Prop:=
 match o with
 | none=>∃ q,e = .returned (.tuple #[.pointer none,.iface 182 (ptr q)])
 | some r=>∃ p t' pe',e = .returned (.tuple #[ptr p,.nilIface]) ∧ RepV w' (fun k=>lo ≤ k) r.1 I p ∧ At E.s l bad r.2 t' ∧ Pk E W1 w' t' pe'
set_option maxHeartbeats 4000000 in
theorem parseString_at {E:PE} {l:List S24} {bad:Bool} (C:Ctx E l bad) (W1 w:World) {i:Nat} {t:S24} (pe:Int) (h:Pk E W1 w t pe) (hat:At E.s l bad i t) (hk:t.f0 ≠ 1) :
  Calls Tryz.prog 127 #[ptr E.P] w fun e w'=>PtrP E W1 l bad w.heap.size 149 (pleaf ⟨14,⟨#[]⟩,⟨#[]⟩,t.f1,0,0⟩ (pnext l bad i)) e w' ∧ Adv E w w':=by
 have HX:=Aside0.mk (fun W (hb:Below w.heap.size w W)=>advance_at C W1 W pe (h.keep hb) hat hk)
 have c5:=(blk_cell h.parser 5).trans rfl
 have c6:=(blk_cell h.parser 6).trans rfl
 have c7:=(blk_cell h.parser 7).trans rfl
 have c8:=(blk_cell h.parser 8).trans rfl
 have H:=Aside0.mk h
 obtain ⟨o,ho⟩:∃ o,o = pnext l bad i:=⟨_,rfl⟩
 rw [← ho] at HX ⊢
 clear h hat ho C hk
 obtain ⟨t0,t1,t2,t3⟩:=t
 go_enter Tryz.func127,Tryz.ntmps127
 go_wp2_with fail
 obtain ⟨Wt,hWt⟩:∃ Wt,Wt = w.alloc (.cells #[.int .i64 t0,.int .i64 t2,.int .i64 t3,.string t1] 58):=⟨_,rfl⟩
 have hbt:Wt.heap[w.heap.size]? = some (.cells #[.int .i64 t0,.int .i64 t2,.int .i64 t3,.string t1] 58 (0,0)):=by rw [hWt];exact blk_new _ _
 have hBt:Below w.heap.size w Wt:=by rw [hWt];exact below_alloc (Below.refl _ _) _
 rw [← hWt]
 clear hWt c5 c6 c7 c8
 have HBT:=Aside0.mk hbt
 have HBt:=Aside0.mk hBt
 clear hbt hBt
 refine (HX.out Wt HBt.out).mono ?_
 rintro e w2 ⟨h2,ad2⟩
 have HA2:=Aside0.mk ((Adv.of_below HBt.out).trans ad2)
 have HT2:=Aside0.mk (ad2.typed (H.out.keep HBt.out) HBT.out (by decide) (by decide))
 have hz2:w.heap.size ≤ w2.heap.size:=HA2.out.size
 clear ad2
 cases o with
 | none=>
  obtain ⟨q,rfl⟩:=h2
  go_wp2_with fail
  go_ret2
  exact ⟨⟨q,rfl⟩,HA2.out⟩
 | some j=>
  obtain ⟨rfl,t',hat',hp⟩:=h2
  have HP:=Aside0.mk hp
  have HAT:=Aside0.mk hat'
  have k1:=(blk_cell HT2.out 1).trans rfl
  have k3:=(blk_cell HT2.out 3).trans rfl
  have hl2:=blk_lt HT2.out
  have HLC:=Aside0.mk (fun W (hb:Below w2.heap.size w2 W)=>loc2_any E W1 W t' t3 t2 (HP.out.keep hb))
  clear hp hat'
  go_wp2_with fail
  go_region_with (first | (go_at_call 118;refine (HLC.out _ ?_).mono ?_;(first | exact below_drew (Below.refl _ _));rintro e w3 ⟨⟨p,rfl,hp3,hp⟩,hb3⟩;have hB3:Below w2.heap.size w2 w3:=(below_drew (Below.refl w2.heap.size w2)).trans hb3;have e3:=blk_below HT2.out hB3;have j1:=(blk_cell e3 1).trans rfl;have j3:=(blk_cell e3 3).trans rfl;have HB3:=Aside0.mk hB3;have HL3:=Aside0.mk (And.intro hp3 hp);clear hb3 hB3 e3 hp hp3) | (go_at_call 160;refine (newText_any _ p ⟨#[]⟩ t1 _ (blk_new _ _)).mono ?_;rintro e w4 ⟨⟨r4,k4,rfl,hr4,hc4⟩,hb4⟩;have HR4:=Aside0.mk (And.intro hr4 hc4);have HB4:=Aside0.mk hb4;clear hr4 hc4 hb4))
  all_goals
   go_wp2_with fail
   go_ret2
   have hz3:w2.heap.size ≤ w3.heap.size:=HB3.out.size
   have hb34:Below w3.heap.size w3 w4:=(below_alloc (Below.refl _ _) _).trans (HB4.out.mono (by simp))
   have hb24:Below w2.heap.size w2 w4:=HB3.out.trans (hb34.mono hz3)
   have hq:=HL3.out.1
   have hr:=HR4.out.1
   simp at hr
   exact ⟨⟨_,t',_,rfl,.leaf (.text _) (by show w.heap.size ≤ _;omega) HR4.out.2 (by show w.heap.size ≤ _;simp at hq;omega) (HL3.out.2.below hb34),HAT.out,HP.out.keep hb24⟩,HA2.out.trans (Adv.of_below hb24)⟩
set_option maxHeartbeats 4000000 in
theorem parseVar_at {E:PE} {l:List S24} {bad:Bool} (C:Ctx E l bad) (W1 w:World) {i:Nat} {t:S24} (pe:Int) (h:Pk E W1 w t pe) (hat:At E.s l bad i t) (hk:t.f0 = 3) :
  Calls Tryz.prog 130 #[ptr E.P] w fun e w'=>PtrP E W1 l bad w.heap.size 141 (match pnext l bad i with | none=>none | some j=>if kd l j = 15 then pleaf (nd 11 (rd_T24 l j).f1) (pnext l bad j) else none) e w' ∧ Adv E w w':=by
 have hx:=expect_at C W1 w pe 3 h hat (by decide)
 rw [hat.kd,if_pos hk] at hx
 have HX:=Aside0.mk hx
 have HNM:=Aside0.mk (fun W j t' pe' (hp:Pk E W1 W t' pe') (ha:At E.s l bad j t')=>name_at C W1 W pe' hp ha)
 have c6:=(blk_cell h.parser 6).trans rfl
 obtain ⟨o,ho⟩:∃ o,o = pnext l bad i:=⟨_,rfl⟩
 rw [← ho] at HX ⊢
 obtain ⟨RR,hRR⟩:∃ RR,RR = (match o with | none=>none | some j=>if kd l j = 15 then pleaf (nd 11 (rd_T24 l j).f1) (pnext l bad j) else none):=⟨_,rfl⟩
 rw [← hRR]
 have HRR:=Aside0.mk hRR
 clear h hat ho C hx hRR
 obtain ⟨t0,t1,t2,t3⟩:=t
 obtain rfl:t0 = 3:=hk
 go_enter Tryz.func130,Tryz.ntmps130
 go_wp2_with fail
 refine HX.out.mono ?_
 rintro e w2 ⟨h2,ad2⟩
 have HA2:=Aside0.mk ad2
 have hz2:w.heap.size ≤ w2.heap.size:=ad2.size
 clear ad2
 cases o with
 | none=>
  obtain ⟨q,rfl⟩:=h2
  go_wp2_with fail
  go_ret2
  exact ⟨by rw [HRR.out];exact ⟨q,rfl⟩,HA2.out⟩
 | some j=>
  obtain ⟨rfl,t',hat',hp⟩:=h2
  have HN2:=Aside0.mk (HNM.out w2 j t' t3 hp hat')
  have HKD:=Aside0.mk hat'.kd
  have HRD:Aside0 (kd l j = 15 → rd_T24 l j = t'):=⟨fun e=>hat'.rd (kd_in (by rw [e];decide))⟩
  clear hp hat'
  obtain ⟨o2,ho2⟩:∃ o2,o2 = (if kd l j = 15 then pnext l bad j else none):=⟨_,rfl⟩
  rw [← ho2] at HN2
  have HO2:=Aside0.mk ho2
  clear ho2
  go_wp2_with fail
  refine HN2.out.mono ?_
  rintro e w3 ⟨h3,ad3⟩
  have HA3:=Aside0.mk (HA2.out.trans ad3)
  have hz3:w2.heap.size ≤ w3.heap.size:=ad3.size
  clear ad3
  cases o2 with
  | none=>
   obtain ⟨q,rfl⟩:=h3
   have HNO:Aside0 ((if kd l (j:Int) = 15 then pleaf (nd 11 (rd_T24 l j).f1) (pnext l bad j) else none) = none):=⟨by
    have:=HO2.out
    split at this
    ·rename_i h15;rw [if_pos h15,← this];rfl
    ·rename_i h15;rw [if_neg h15]⟩
   go_wp2_with fail
   go_ret2
   refine ⟨?_,HA3.out⟩
   rw [HRR.out.trans HNO.out]
   exact ⟨q,rfl⟩
  | some j2=>
   obtain ⟨⟨r,rfl,hr,hn⟩,t2',hat2,hp3⟩:=h3
   have HYES:Aside0 ((if kd l (j:Int) = 15 then pleaf (nd 11 (rd_T24 l j).f1) (pnext l bad j) else none) = some (made (nd 11 t'.f1) [],j2)):=⟨by
    have:=HO2.out
    split at this
    ·rename_i h15;rw [if_pos h15,← this,HRD.out h15];rfl
    ·cases this⟩
   have HP3:=Aside0.mk hp3
   have HF:=Aside0.mk (And.intro hr (And.intro hn hat2))
   clear hr hn hp3 hat2
   go_wp2_with fail
   refine (loc2_any E W1 w3 t2' _ t2 HP3.out).mono ?_
   rintro e w4 ⟨⟨q4,rfl,hq,hq4⟩,hb4⟩
   have HQ4:=Aside0.mk (And.intro hq hq4)
   have HB4:=Aside0.mk hb4
   clear hq hq4 hb4
   go_wp2_with fail
   refine (newVar_any w4.heap.size ⟨#[]⟩ _ _ _ (blk_new _ _)).mono ?_
   rintro e w5 ⟨rfl,k5,rfl⟩
   go_wp2_with fail
   go_ret2
   have hz4:w3.heap.size ≤ w4.heap.size:=HB4.out.size
   have hq5:=HQ4.out.1
   have hr5:=HF.out.1
   first
   | (
     have hb45:Below w4.heap.size w4 (w4.alloc (.cells #[.string k5,ptr q4,ptr r] 142)):=below_alloc (Below.refl _ _) _
     refine ⟨?_,HA3.out.trans (Adv.of_below (HB4.out.trans (hb45.mono hz4)))⟩
     rw [HRR.out.trans HYES.out]
     exact ⟨_,t2',_,rfl,.var (by show w.heap.size ≤ _;omega) (blk_new _ _) (by show w.heap.size ≤ _;omega) (HQ4.out.2.below hb45) (by show w.heap.size ≤ _;omega) (HF.out.2.1.below (HB4.out.trans (hb45.mono hz4))),HF.out.2.2,HP3.out.keep (HB4.out.trans (hb45.mono hz4))⟩)
   | (
     have hb45:∀ o u,Below w4.heap.size w4 ((w4.alloc o).setCell ⟨w4.heap.size,0,none⟩ u):=fun o u=>(below_alloc (Below.refl _ _) _).setCell (Nat.le_refl _) _
     refine ⟨?_,HA3.out.trans (Adv.of_below (HB4.out.trans ((hb45 _ _).mono hz4)))⟩
     rw [HRR.out.trans HYES.out]
     exact ⟨_,t2',_,rfl,.var (by show w.heap.size ≤ _;omega) ((blk_set (blk_new _ _) 0 _).trans rfl) (by show w.heap.size ≤ _;omega) (HQ4.out.2.below (hb45 _ _)) (by show w.heap.size ≤ _;omega) (HF.out.2.1.below (HB4.out.trans ((hb45 _ _).mono hz4))),HF.out.2.2,HP3.out.keep (HB4.out.trans ((hb45 _ _).mono hz4))⟩)
theorem info41:(Tryz.prog.info? 41).map (fun i=>(i.zero,i.size,i.bytes)) = some (some (.slice none 0 0),1,24):=by kernel_rfl
theorem grw_own {g:Nat} {w W w1:World} {v:Value} (h:w.grownBy W (some g)) (hg:W.grownBy w1 v.ownBlock) (hv:∀ b,v.ownBlock = some b → w.heap.size ≤ b):w.grownBy w1 (some g):=
 ⟨hg.os.trans h.os,hg.tape.trans h.tape,hg.output.trans h.output,Nat.le_trans h.size hg.size,fun i hi hne=>(hg.block i (Nat.lt_of_lt_of_le hi h.size) (fun e=>by have:=hv i e.symm;omega)).trans (h.block i hi hne)⟩
theorem blk_own {w w1:World} {g T E:Nat} {cs:Array Value} {v:Value} (h:w.heap[g]? = some (.cells cs T (0,0))) (hg:w.grownBy w1 v.ownBlock) (ht:∀ k,v.ownBlock = some k → ∃ cells,w.heap[k]? = some (.cells cells E (0,0))) (hne:T ≠ E):w1.heap[g]? = some (.cells cs T (0,0)):=by
 refine (hg.block g (blk_lt h) (fun e=>?_)).trans h
 obtain ⟨cells,hc⟩:=ht g e.symm
 rw [h] at hc
 injection hc with hc
 injection hc with _ a
 exact hne a
theorem R_own_far {α:Type} {k:Kd α} {e base E:Nat} {ok:Nat → Prop} {W W1:World} {v u:Value} {xs:List α} (h:k.R e W base ok u xs) (hg:W.grownBy W1 v.ownBlock) (ht:∀ b,v.ownBlock = some b → ∃ cells,W.heap[b]? = some (.cells cells E (0,0))) (hE:∀ q,q ∈ e :: k.E → q ≠ E):k.R e W1 base ok u xs:=
 Kd.R_mono (Kd.R_step (Kd.R_apart' h ht hE) (fun b hb hl=>hg.block b hl hb.2)) (fun b hb=>hb.1)
theorem Px.own {W W1:World} {base g E:Nat} {l:List S24} {x:PS} {v:Value} (h:Px W base g l x) (hg:W.grownBy W1 v.ownBlock) (ht:∀ b,v.ownBlock = some b → ∃ cells,W.heap[b]? = some (.cells cells E (0,0))) (h1:E = 41):Px W1 base g l x:=by
 obtain ⟨u,h,hb,hR⟩:=h
 refine ⟨u,blk_own h hg ht (by omega),hb,R_own_far hR hg ht ?_⟩
 subst h1
 simp [k24,Kd.iso,Kd.pair,Kd.int,Kd.string,Kd.scalar]
theorem s41_ne {t:Nat} (h1:t ≠ 41) (h2:t ≠ 50):∀ q,q ∈ 41 :: (Kd.slice 50 k50).E → q ≠ t:=by
 have:∀ q,q ∈ 41 :: (Kd.slice 50 k50).E → q = 41 ∨ q = 50:=by simp [Kd.slice,k50,Kd.iso,Kd.pair,Kd.int,Kd.string,Kd.scalar]
 intro q hq
 rcases this q hq with e | e <;> rw [e] <;> intro e2 <;> omega
def lenS (v:Value):Nat:=match v with | .slice _ n _=>n | _=>0
structure Rnds (base g:Nat) (l:List S24) (c:Int) (f:PS → List S50 × PS) (RR:List (List S50) × PS) (D:Int) (w wr:World) (vk:Value) (k:Nat) (y:PS) (acc:List (List S50)):Prop where
 eq:loopd c f l k y acc = RR
 ok:y.ok l
 dp:y.bad = false → y.deep = D
 k0:y.bad = false → (l.length:Int) < y.at_ + k
 al:(acc.length:Int) ≤ y.at_ + (if y.bad = true then 1 else 0)
 px:Px wr base g l y
 row:(Kd.slice 50 k50).R 41 wr base (fun _=>True) vk acc
 own:∀ b,vk.ownBlock = some b → w.heap.size ≤ b
 grw:w.grownBy wr (some g)
theorem Rnds.out_bad {base g:Nat} {l:List S24} {c:Int} {f:PS → List S50 × PS} {RR:List (List S50) × PS} {D:Int} {w wr:World} {vk:Value} {k:Nat} {y:PS} {acc:List (List S50)} (h:Rnds base g l c f RR D w wr vk k y acc) (hb:y.bad = true):RR = (acc,y):=by
 have:=h.eq
 cases k with
 | zero=>exact this.symm
 | succ k=>rw [loopd,if_pos hb] at this;exact this.symm
theorem Rnds.out_take {base g:Nat} {l:List S24} {c:Int} {f:PS → List S50 × PS} {RR:List (List S50) × PS} {D:Int} {w wr:World} {vk:Value} {k:Nat} {y:PS} {acc:List (List S50)} (h:Rnds base g l c f RR D w wr vk k y acc) (hb:y.bad = false) (ht:y.takes l c = true):RR = (acc,y.took l c):=by
 have:=h.eq
 have h1:=h.k0 hb
 have h2:=h.ok.a1
 cases k with
 | zero=>omega
 | succ k=>
  rw [loopd,if_neg (by rw [hb];decide),if_pos ht] at this
  rw [← this]
  unfold PS.took PS.next
  rw [if_pos ht]
theorem Rnds.len {base g:Nat} {l:List S24} {c:Int} {f:PS → List S50 × PS} {RR:List (List S50) × PS} {D:Int} {w wr:World} {vk:Value} {k:Nat} {y:PS} {acc:List (List S50)} (h:Rnds base g l c f RR D w wr vk k y acc):acc.length ≤ 3001 ∧ lenS vk = acc.length:=by
 have h1:=h.al
 have h2:=h.ok.a1
 have h3:=h.ok.ll
 obtain ⟨A,c,he⟩:=Kd.R_slice h.row
 refine ⟨by split at h1 <;> omega,by rw [he];rfl⟩
theorem Rnds.more {base g n B:Nat} {l:List S24} {c:Int} {f:PS → List S50 × PS} {RR:List (List S50) × PS} {D:Int} {w wr w2 w3:World} {vk v3:Value} {k:Nat} {y:PS} {acc:List (List S50)} (h:Rnds base g l c f RR D w wr vk k y acc) (hb:y.bad = false) (ht:y.takes l c = false)
  (hv:∀ x:PS,x.ok l → Keeps l n B x (f x)) (hX:Px w2 base g l (f y).2) (hG:w.grownBy w2 (some g)) (hR:(Kd.slice 50 k50).R 41 w3 base (fun _=>True) v3 (acc ++ [(f y).1])) (hty:∀ b,vk.ownBlock = some b → ∃ cells,w2.heap[b]? = some (.cells cells 41 (0,0))) (hg:w2.grownBy w3 vk.ownBlock) (hat:v3.ownBlock = vk.ownBlock ∨ ∃ b,v3.ownBlock = some b ∧ w2.heap.size ≤ b) :
  Rnds base g l c f RR D w w3 v3 (k - 1) (f y).2 (acc ++ [(f y).1]):=by
 have h1:=h.k0 hb
 have h2:=h.ok.a1
 have hK:=hv y h.ok
 have he:=h.eq
 cases k with
 | zero=>omega
 | succ k=>
  rw [loopd,if_neg (by rw [hb];decide),if_neg (by rw [ht];decide)] at he
  have hal:=h.al
  rw [hb] at hal
  have hal:(acc.length:Int) ≤ y.at_ + 0:=hal
  have hat2:=hK.at_
  refine ⟨he,hK.ok,fun e=>(hK.de e).trans (h.dp hb),fun e=>?_,?_,hX.own hg hty rfl,hR,fun b hb2=>?_,grw_own hG hg h.own⟩
  ·rcases hK.on with q | q
   ·show (l.length:Int) < (f y).2.at_ + k;omega
   ·rw [q] at e;cases e
  ·rw [List.length_append,List.length_singleton]
   rcases hK.on with q | q
   ·split <;> omega
   ·rw [if_pos q];omega
  ·rcases hat with e | ⟨b',e,hle⟩
   ·exact h.own b (e ▸ hb2)
   ·rw [e] at hb2
    injection hb2 with hb2
    have:=hG.size
    omega
theorem toList_ne {a:ByteArray} {l:List UInt8} (h:a ≠ ⟨l.toArray⟩):(a.toList == l) = false:=by
 cases he:(a.toList == l) with
 | false=>rfl
 | true=>
  exfalso
  have hl:=beq_iff_eq.1 he
  rw [ByteArray.toList_eq] at hl
  exact h (ByteArray.ext (by rw [← hl]))
def Reads (base g:Nat) (l:List S24) (r:List S50 × PS) (w:World) (e:Ending) (w':World):Prop:=
 (∃ v,e = .returned v ∧ k50.R 50 w' base (fun _=>True) v r.1) ∧ Px w' base g l r.2 ∧ w.grownBy w' (some g)
def pvar (l:List S24) (bad:Bool) (i:Nat):Option (List S50 × Nat):=match pnext l bad i with | none=>none | some j=>if kd l j = 15 then pleaf (nd 11 (rd_T24 l j).f1) (pnext l bad j) else none
theorem pval_16 {l:List S24} {bad:Bool} {n i:Nat} (h:kd l i = 16):pval l bad (n + 1) i = pleaf ⟨12,⟨#[]⟩,⟨#[]⟩,(rd_T24 l i).f1,0,0⟩ (pnext l bad i):=by
 rw [pval,h,if_neg (show ¬ (16:Int) = 10 by decide),if_neg (show ¬ (16:Int) = 12 by decide),if_pos (rfl:(16:Int) = 16)]
theorem pval_17 {l:List S24} {bad:Bool} {n i:Nat} (h:kd l i = 17):pval l bad (n + 1) i = pleaf ⟨13,⟨#[]⟩,⟨#[]⟩,(rd_T24 l i).f1,0,0⟩ (pnext l bad i):=by
 rw [pval,h,if_neg (show ¬ (17:Int) = 10 by decide),if_neg (show ¬ (17:Int) = 12 by decide),if_neg (show ¬ (17:Int) = 16 by decide),if_pos (rfl:(17:Int) = 17)]
theorem pval_18 {l:List S24} {bad:Bool} {n i:Nat} (h:kd l i = 18 ∨ kd l i = 19):pval l bad (n + 1) i = pleaf ⟨14,⟨#[]⟩,⟨#[]⟩,(rd_T24 l i).f1,0,0⟩ (pnext l bad i):=by
 rw [pval,if_neg (by omega),if_neg (by omega),if_neg (by omega),if_neg (by omega),if_pos h]
theorem pval_15 {l:List S24} {bad:Bool} {n i:Nat} (h:kd l i = 15):pval l bad (n + 1) i = (if (rd_T24 l i).f1 = wTrue then pleaf ⟨15,⟨#[]⟩,⟨#[]⟩,⟨#[]⟩,1,0⟩ (pnext l bad i)
   else if (rd_T24 l i).f1 = wFalse then pleaf ⟨15,⟨#[]⟩,⟨#[]⟩,⟨#[]⟩,0,0⟩ (pnext l bad i)
   else if (rd_T24 l i).f1 = wNull then none
   else pleaf (nd 16 (rd_T24 l i).f1) (pnext l bad i)):=by
 rw [pval,h,if_neg (show ¬ (15:Int) = 10 by decide),if_neg (show ¬ (15:Int) = 12 by decide),if_neg (show ¬ (15:Int) = 16 by decide),if_neg (show ¬ (15:Int) = 17 by decide),if_neg (show ¬ ((15:Int) = 18 ∨ (15:Int) = 19) by decide),if_pos (rfl:(15:Int) = 15)]
theorem pval_3 {l:List S24} {bad:Bool} {n i:Nat} (h:kd l i = 3):pval l bad (n + 1) i = pvar l bad i:=by
 rw [pval,h,if_neg (show ¬ (3:Int) = 10 by decide),if_neg (show ¬ (3:Int) = 12 by decide),if_neg (show ¬ (3:Int) = 16 by decide),if_neg (show ¬ (3:Int) = 17 by decide),if_neg (show ¬ ((3:Int) = 18 ∨ (3:Int) = 19) by decide),if_neg (show ¬ (3:Int) = 15 by decide),if_pos (rfl:(3:Int) = 3)]
 rfl
theorem pval_else {l:List S24} {bad:Bool} {n i:Nat} (h3:kd l i ≠ 3) (h10:kd l i ≠ 10) (h12:kd l i ≠ 12) (h15:kd l i ≠ 15) (h16:kd l i ≠ 16) (h17:kd l i ≠ 17) (h18:¬ (kd l i = 18 ∨ kd l i = 19)):pval l bad (n + 1) i = none:=by
 rw [pval,if_neg h10,if_neg h12,if_neg h16,if_neg h17,if_neg h18,if_neg h15,if_neg h3]
set_option maxHeartbeats 4000000 in
theorem lit_int {E:PE} {l:List S24} {bad:Bool} (C:Ctx E l bad) (W1 w:World) {i:Nat} {t:S24} (pe:Int) (h:Pk E W1 w t pe) (hat:At E.s l bad i t) (hk:t.f0 = 16) :
  Calls Tryz.prog 83 #[ptr E.P,.bool false] w fun e w'=>ValP E W1 l bad w.heap.size (pleaf ⟨12,⟨#[]⟩,⟨#[]⟩,t.f1,0,0⟩ (pnext l bad i)) e w' ∧ Adv E w w':=by
 have c5:=(blk_cell h.parser 5).trans rfl
 have c6:=(blk_cell h.parser 6).trans rfl
 have c7:=(blk_cell h.parser 7).trans rfl
 have c8:=(blk_cell h.parser 8).trans rfl
 have H:=Aside0.mk h
 have HX:=Aside0.mk (fun W (hb:Below w.heap.size w W)=>advance_at C W1 W pe (h.keep hb) hat (by rw [hk];decide))
 obtain ⟨o,ho⟩:∃ o,o = pnext l bad i:=⟨_,rfl⟩
 rw [← ho] at HX ⊢
 clear h hat ho C
 obtain ⟨t0,t1,t2,t3⟩:=t
 obtain rfl:t0 = 16:=hk
 go_enter Tryz.func83,Tryz.ntmps83
 go_wp2_with fail
 obtain ⟨Wt,hWt⟩:∃ Wt,Wt = w.alloc (.cells #[.int .i64 16,.int .i64 t2,.int .i64 t3,.string t1] 58):=⟨_,rfl⟩
 have hbt:Wt.heap[w.heap.size]? = some (.cells #[.int .i64 16,.int .i64 t2,.int .i64 t3,.string t1] 58 (0,0)):=by rw [hWt];exact blk_new _ _
 have hBt:Below w.heap.size w Wt:=by rw [hWt];exact below_alloc (Below.refl _ _) _
 rw [← hWt]
 clear hWt c5 c6 c7 c8
 have HBT:=Aside0.mk hbt
 have HBt:=Aside0.mk hBt
 clear hbt hBt
 refine (HX.out Wt HBt.out).mono ?_
 rintro e w2 ⟨h2,ad2⟩
 have HA2:=Aside0.mk ((Adv.of_below HBt.out).trans ad2)
 have HT2:=Aside0.mk (ad2.typed (H.out.keep HBt.out) HBT.out (by decide) (by decide))
 have hz2:w.heap.size ≤ w2.heap.size:=HA2.out.size
 clear ad2
 cases o with
 | none=>
  obtain ⟨q,rfl⟩:=h2
  go_wp2_with fail
  go_ret2
  exact ⟨⟨_,q,rfl,.inl rfl⟩,HA2.out⟩
 | some j=>
  obtain ⟨rfl,t',hat',hp⟩:=h2
  have HP:=Aside0.mk hp
  have HAT:=Aside0.mk hat'
  have k0:=(blk_cell HT2.out 0).trans rfl
  have k1:=(blk_cell HT2.out 1).trans rfl
  have k3:=(blk_cell HT2.out 3).trans rfl
  have hl2:=blk_lt HT2.out
  have HLC:=Aside0.mk (fun W (hb:Below w2.heap.size w2 W)=>loc2_any E W1 W t' t3 t2 (HP.out.keep hb))
  clear hp hat'
  go_wp2_with fail
  go_region_with (first | (go_at_call 118;refine (HLC.out _ ?_).mono ?_;(first | exact below_drew (Below.refl _ _));rintro e w3 ⟨⟨p,rfl,hp3,hp⟩,hb3⟩;have hB3:Below w2.heap.size w2 w3:=(below_drew (Below.refl w2.heap.size w2)).trans hb3;have e3:=blk_below HT2.out hB3;have j1:=(blk_cell e3 1).trans rfl;have j3:=(blk_cell e3 3).trans rfl;have HB3:=Aside0.mk hB3;have HL3:=Aside0.mk (And.intro hp3 hp);clear hb3 hB3 e3 hp hp3) | (go_at_call 125;refine (newInt_any _ p ⟨#[]⟩ t1 _ (blk_new _ _)).mono ?_;rintro e w4 ⟨⟨r4,k4,rfl,hr4,hc4⟩,hb4⟩;have HR4:=Aside0.mk (And.intro hr4 hc4);have HB4:=Aside0.mk hb4;clear hr4 hc4 hb4))
  all_goals
   go_wp2_with fail
   go_ret2
   have hz3:w2.heap.size ≤ w3.heap.size:=HB3.out.size
   have hb34:Below w3.heap.size w3 w4:=(below_alloc (Below.refl _ _) _).trans (HB4.out.mono (by simp))
   have hb24:Below w2.heap.size w2 w4:=HB3.out.trans (hb34.mono hz3)
   have hq:=HL3.out.1
   have hr:=HR4.out.1
   simp at hr
   exact ⟨⟨_,_,t',_,rfl,.leaf (.int _) (by show w.heap.size ≤ _;omega) HR4.out.2 (by show w.heap.size ≤ _;simp at hq;omega) (HL3.out.2.below hb34),HAT.out,HP.out.keep hb24⟩,HA2.out.trans (Adv.of_below hb24)⟩
set_option maxHeartbeats 4000000 in
theorem lit_float {E:PE} {l:List S24} {bad:Bool} (C:Ctx E l bad) (W1 w:World) {i:Nat} {t:S24} (pe:Int) (h:Pk E W1 w t pe) (hat:At E.s l bad i t) (hk:t.f0 = 17) :
  Calls Tryz.prog 83 #[ptr E.P,.bool false] w fun e w'=>ValP E W1 l bad w.heap.size (pleaf ⟨13,⟨#[]⟩,⟨#[]⟩,t.f1,0,0⟩ (pnext l bad i)) e w' ∧ Adv E w w':=by
 have c5:=(blk_cell h.parser 5).trans rfl
 have c6:=(blk_cell h.parser 6).trans rfl
 have c7:=(blk_cell h.parser 7).trans rfl
 have c8:=(blk_cell h.parser 8).trans rfl
 have H:=Aside0.mk h
 have HX:=Aside0.mk (fun W (hb:Below w.heap.size w W)=>advance_at C W1 W pe (h.keep hb) hat (by rw [hk];decide))
 obtain ⟨o,ho⟩:∃ o,o = pnext l bad i:=⟨_,rfl⟩
 rw [← ho] at HX ⊢
 clear h hat ho C
 obtain ⟨t0,t1,t2,t3⟩:=t
 obtain rfl:t0 = 17:=hk
 go_enter Tryz.func83,Tryz.ntmps83
 go_wp2_with fail
 obtain ⟨Wt,hWt⟩:∃ Wt,Wt = w.alloc (.cells #[.int .i64 17,.int .i64 t2,.int .i64 t3,.string t1] 58):=⟨_,rfl⟩
 have hbt:Wt.heap[w.heap.size]? = some (.cells #[.int .i64 17,.int .i64 t2,.int .i64 t3,.string t1] 58 (0,0)):=by rw [hWt];exact blk_new _ _
 have hBt:Below w.heap.size w Wt:=by rw [hWt];exact below_alloc (Below.refl _ _) _
 rw [← hWt]
 clear hWt c5 c6 c7 c8
 have HBT:=Aside0.mk hbt
 have HBt:=Aside0.mk hBt
 clear hbt hBt
 refine (HX.out Wt HBt.out).mono ?_
 rintro e w2 ⟨h2,ad2⟩
 have HA2:=Aside0.mk ((Adv.of_below HBt.out).trans ad2)
 have HT2:=Aside0.mk (ad2.typed (H.out.keep HBt.out) HBT.out (by decide) (by decide))
 have hz2:w.heap.size ≤ w2.heap.size:=HA2.out.size
 clear ad2
 cases o with
 | none=>
  obtain ⟨q,rfl⟩:=h2
  go_wp2_with fail
  go_ret2
  exact ⟨⟨_,q,rfl,.inl rfl⟩,HA2.out⟩
 | some j=>
  obtain ⟨rfl,t',hat',hp⟩:=h2
  have HP:=Aside0.mk hp
  have HAT:=Aside0.mk hat'
  have k0:=(blk_cell HT2.out 0).trans rfl
  have k1:=(blk_cell HT2.out 1).trans rfl
  have k3:=(blk_cell HT2.out 3).trans rfl
  have hl2:=blk_lt HT2.out
  have HLC:=Aside0.mk (fun W (hb:Below w2.heap.size w2 W)=>loc2_any E W1 W t' t3 t2 (HP.out.keep hb))
  clear hp hat'
  go_wp2_with fail
  go_region_with (first | (go_at_call 118;refine (HLC.out _ ?_).mono ?_;(first | exact below_drew (Below.refl _ _));rintro e w3 ⟨⟨p,rfl,hp3,hp⟩,hb3⟩;have hB3:Below w2.heap.size w2 w3:=(below_drew (Below.refl w2.heap.size w2)).trans hb3;have e3:=blk_below HT2.out hB3;have j1:=(blk_cell e3 1).trans rfl;have j3:=(blk_cell e3 3).trans rfl;have HB3:=Aside0.mk hB3;have HL3:=Aside0.mk (And.intro hp3 hp);clear hb3 hB3 e3 hp hp3) | (go_at_call 126;refine (newFloat_any _ p ⟨#[]⟩ t1 _ (blk_new _ _)).mono ?_;rintro e w4 ⟨⟨r4,k4,rfl,hr4,hc4⟩,hb4⟩;have HR4:=Aside0.mk (And.intro hr4 hc4);have HB4:=Aside0.mk hb4;clear hr4 hc4 hb4))
  all_goals
   go_wp2_with fail
   go_ret2
   have hz3:w2.heap.size ≤ w3.heap.size:=HB3.out.size
   have hb34:Below w3.heap.size w3 w4:=(below_alloc (Below.refl _ _) _).trans (HB4.out.mono (by simp))
   have hb24:Below w2.heap.size w2 w4:=HB3.out.trans (hb34.mono hz3)
   have hq:=HL3.out.1
   have hr:=HR4.out.1
   simp at hr
   exact ⟨⟨_,_,t',_,rfl,.leaf (.float _) (by show w.heap.size ≤ _;omega) HR4.out.2 (by show w.heap.size ≤ _;simp at hq;omega) (HL3.out.2.below hb34),HAT.out,HP.out.keep hb24⟩,HA2.out.trans (Adv.of_below hb24)⟩
set_option maxHeartbeats 4000000 in
theorem lit_enum {E:PE} {l:List S24} {bad:Bool} (C:Ctx E l bad) (W1 w:World) {i:Nat} {t:S24} (pe:Int) (h:Pk E W1 w t pe) (hat:At E.s l bad i t) (hk:t.f0 = 15) (hT:t.f1 ≠ wTrue) (hF:t.f1 ≠ wFalse) (hN:t.f1 ≠ wNull) :
  Calls Tryz.prog 83 #[ptr E.P,.bool false] w fun e w'=>ValP E W1 l bad w.heap.size (pleaf (nd 16 t.f1) (pnext l bad i)) e w' ∧ Adv E w w':=by
 have c5:=(blk_cell h.parser 5).trans rfl
 have c6:=(blk_cell h.parser 6).trans rfl
 have c7:=(blk_cell h.parser 7).trans rfl
 have c8:=(blk_cell h.parser 8).trans rfl
 have H:=Aside0.mk h
 have HX:=Aside0.mk (fun W (hb:Below w.heap.size w W)=>advance_at C W1 W pe (h.keep hb) hat (by rw [hk];decide))
 obtain ⟨o,ho⟩:∃ o,o = pnext l bad i:=⟨_,rfl⟩
 rw [← ho] at HX ⊢
 clear h hat ho C
 obtain ⟨t0,t1,t2,t3⟩:=t
 obtain rfl:t0 = 15:=hk
 have e1:(t1.toList == [116,114,117,101]) = false:=toList_ne hT
 have e2:(t1.toList == [102,97,108,115,101]) = false:=toList_ne hF
 have e3:(t1.toList == [110,117,108,108]) = false:=toList_ne hN
 have e4:(t1.toList != [110,117,108,108]) = true:=by simp [bne,e3]
 clear hT hF hN
 go_enter Tryz.func83,Tryz.ntmps83
 go_wp2_with fail
 obtain ⟨Wt,hWt⟩:∃ Wt,Wt = w.alloc (.cells #[.int .i64 15,.int .i64 t2,.int .i64 t3,.string t1] 58):=⟨_,rfl⟩
 have hbt:Wt.heap[w.heap.size]? = some (.cells #[.int .i64 15,.int .i64 t2,.int .i64 t3,.string t1] 58 (0,0)):=by rw [hWt];exact blk_new _ _
 have hBt:Below w.heap.size w Wt:=by rw [hWt];exact below_alloc (Below.refl _ _) _
 rw [← hWt]
 clear hWt c5 c6 c7 c8
 have HBT:=Aside0.mk hbt
 have HBt:=Aside0.mk hBt
 clear hbt hBt
 refine (HX.out Wt HBt.out).mono ?_
 rintro e w2 ⟨h2,ad2⟩
 have HA2:=Aside0.mk ((Adv.of_below HBt.out).trans ad2)
 have HT2:=Aside0.mk (ad2.typed (H.out.keep HBt.out) HBT.out (by decide) (by decide))
 have hz2:w.heap.size ≤ w2.heap.size:=HA2.out.size
 clear ad2
 cases o with
 | none=>
  obtain ⟨q,rfl⟩:=h2
  go_wp2_with fail
  go_ret2
  exact ⟨⟨_,q,rfl,.inl rfl⟩,HA2.out⟩
 | some j=>
  obtain ⟨rfl,t',hat',hp⟩:=h2
  have HP:=Aside0.mk hp
  have HAT:=Aside0.mk hat'
  have k0:=(blk_cell HT2.out 0).trans rfl
  have k1:=(blk_cell HT2.out 1).trans rfl
  have k3:=(blk_cell HT2.out 3).trans rfl
  have hl2:=blk_lt HT2.out
  have HLC:=Aside0.mk (fun W (hb:Below w2.heap.size w2 W)=>loc2_any E W1 W t' t3 t2 (HP.out.keep hb))
  clear hp hat'
  go_wp2_with fail
  go_region_with (first | (go_at_call 118;refine (HLC.out _ ?_).mono ?_;(first | exact below_drew (Below.refl _ _));rintro e w3 ⟨⟨p,rfl,hp3,hp⟩,hb3⟩;have hB3:Below w2.heap.size w2 w3:=(below_drew (Below.refl w2.heap.size w2)).trans hb3;have e3:=blk_below HT2.out hB3;have j1:=(blk_cell e3 1).trans rfl;have j3:=(blk_cell e3 3).trans rfl;have HB3:=Aside0.mk hB3;have HL3:=Aside0.mk (And.intro hp3 hp);clear hb3 hB3 e3 hp hp3) | (go_at_call 129;refine (newEnum_any _ p ⟨#[]⟩ t1 _ (blk_new _ _)).mono ?_;rintro e w4 ⟨⟨r4,k4,rfl,hr4,hc4⟩,hb4⟩;have HR4:=Aside0.mk (And.intro hr4 hc4);have HB4:=Aside0.mk hb4;clear hr4 hc4 hb4))
  all_goals
   go_wp2_with fail
   go_ret2
   have hz3:w2.heap.size ≤ w3.heap.size:=HB3.out.size
   have hb34:Below w3.heap.size w3 w4:=(below_alloc (Below.refl _ _) _).trans (HB4.out.mono (by simp))
   have hb24:Below w2.heap.size w2 w4:=HB3.out.trans (hb34.mono hz3)
   have hq:=HL3.out.1
   have hr:=HR4.out.1
   simp at hr
   exact ⟨⟨_,_,t',_,rfl,.leaf (.enum _) (by show w.heap.size ≤ _;omega) HR4.out.2 (by show w.heap.size ≤ _;simp at hq;omega) (HL3.out.2.below hb34),HAT.out,HP.out.keep hb24⟩,HA2.out.trans (Adv.of_below hb24)⟩
set_option maxHeartbeats 4000000 in
theorem lit_yes {E:PE} {l:List S24} {bad:Bool} (C:Ctx E l bad) (W1 w:World) {i:Nat} {t:S24} (pe:Int) (h:Pk E W1 w t pe) (hat:At E.s l bad i t) (hk:t.f0 = 15) (hT:t.f1 = wTrue) :
  Calls Tryz.prog 83 #[ptr E.P,.bool false] w fun e w'=>ValP E W1 l bad w.heap.size (pleaf ⟨15,⟨#[]⟩,⟨#[]⟩,⟨#[]⟩,1,0⟩ (pnext l bad i)) e w' ∧ Adv E w w':=by
 have c5:=(blk_cell h.parser 5).trans rfl
 have c6:=(blk_cell h.parser 6).trans rfl
 have c7:=(blk_cell h.parser 7).trans rfl
 have c8:=(blk_cell h.parser 8).trans rfl
 have H:=Aside0.mk h
 have HX:=Aside0.mk (fun W (hb:Below w.heap.size w W)=>advance_at C W1 W pe (h.keep hb) hat (by rw [hk];decide))
 obtain ⟨o,ho⟩:∃ o,o = pnext l bad i:=⟨_,rfl⟩
 rw [← ho] at HX ⊢
 clear h hat ho C
 obtain ⟨t0,t1,t2,t3⟩:=t
 obtain rfl:t0 = 15:=hk
 unfold wTrue at hT
 obtain rfl:t1 = ⟨#[116,114,117,101]⟩:=hT
 go_enter Tryz.func83,Tryz.ntmps83
 go_wp2_with fail
 obtain ⟨Wt,hWt⟩:∃ Wt,Wt = w.alloc (.cells #[.int .i64 15,.int .i64 t2,.int .i64 t3,.string ⟨#[116,114,117,101]⟩] 58):=⟨_,rfl⟩
 have hbt:Wt.heap[w.heap.size]? = some (.cells #[.int .i64 15,.int .i64 t2,.int .i64 t3,.string ⟨#[116,114,117,101]⟩] 58 (0,0)):=by rw [hWt];exact blk_new _ _
 have hBt:Below w.heap.size w Wt:=by rw [hWt];exact below_alloc (Below.refl _ _) _
 rw [← hWt]
 clear hWt c5 c6 c7 c8
 have HBT:=Aside0.mk hbt
 have HBt:=Aside0.mk hBt
 clear hbt hBt
 refine (HX.out Wt HBt.out).mono ?_
 rintro e w2 ⟨h2,ad2⟩
 have HA2:=Aside0.mk ((Adv.of_below HBt.out).trans ad2)
 have HT2:=Aside0.mk (ad2.typed (H.out.keep HBt.out) HBT.out (by decide) (by decide))
 have hz2:w.heap.size ≤ w2.heap.size:=HA2.out.size
 clear ad2
 cases o with
 | none=>
  obtain ⟨q,rfl⟩:=h2
  go_wp2_with fail
  go_ret2
  exact ⟨⟨_,q,rfl,.inl rfl⟩,HA2.out⟩
 | some j=>
  obtain ⟨rfl,t',hat',hp⟩:=h2
  have HP:=Aside0.mk hp
  have HAT:=Aside0.mk hat'
  have k0:=(blk_cell HT2.out 0).trans rfl
  have k1:=(blk_cell HT2.out 1).trans rfl
  have k3:=(blk_cell HT2.out 3).trans rfl
  have hl2:=blk_lt HT2.out
  have HLC:=Aside0.mk (fun W (hb:Below w2.heap.size w2 W)=>loc2_any E W1 W t' t3 t2 (HP.out.keep hb))
  clear hp hat'
  go_wp2_with fail
  refine (HLC.out w2 (Below.refl _ _)).mono ?_
  rintro e w3 ⟨⟨p,rfl,hp3,hp⟩,hb3⟩
  have HB3:=Aside0.mk hb3
  have HL3:=Aside0.mk (And.intro hp3 hp)
  clear hb3 hp hp3
  go_wp2_with fail
  refine (newBool_any _ p ⟨#[]⟩ true _ (blk_new _ _)).mono ?_
  rintro e w4 ⟨⟨r4,k4,rfl,hr4,hc4⟩,hb4⟩
  have HR4:=Aside0.mk (And.intro hr4 hc4)
  have HB4:=Aside0.mk hb4
  clear hr4 hc4 hb4
  go_wp2_with fail
  go_ret2
  have hz3:w2.heap.size ≤ w3.heap.size:=HB3.out.size
  have hb34:Below w3.heap.size w3 w4:=(below_alloc (Below.refl _ _) _).trans (HB4.out.mono (by simp))
  have hb24:Below w2.heap.size w2 w4:=HB3.out.trans (hb34.mono hz3)
  have hq:=HL3.out.1
  have hr:=HR4.out.1
  simp at hr
  exact ⟨⟨_,_,t',_,rfl,.leaf .yes (by show w.heap.size ≤ _;omega) HR4.out.2 (by show w.heap.size ≤ _;omega) (HL3.out.2.below hb34),HAT.out,HP.out.keep hb24⟩,HA2.out.trans (Adv.of_below hb24)⟩
set_option maxHeartbeats 4000000 in
theorem lit_no {E:PE} {l:List S24} {bad:Bool} (C:Ctx E l bad) (W1 w:World) {i:Nat} {t:S24} (pe:Int) (h:Pk E W1 w t pe) (hat:At E.s l bad i t) (hk:t.f0 = 15) (hT:t.f1 = wFalse) :
  Calls Tryz.prog 83 #[ptr E.P,.bool false] w fun e w'=>ValP E W1 l bad w.heap.size (pleaf ⟨15,⟨#[]⟩,⟨#[]⟩,⟨#[]⟩,0,0⟩ (pnext l bad i)) e w' ∧ Adv E w w':=by
 have c5:=(blk_cell h.parser 5).trans rfl
 have c6:=(blk_cell h.parser 6).trans rfl
 have c7:=(blk_cell h.parser 7).trans rfl
 have c8:=(blk_cell h.parser 8).trans rfl
 have H:=Aside0.mk h
 have HX:=Aside0.mk (fun W (hb:Below w.heap.size w W)=>advance_at C W1 W pe (h.keep hb) hat (by rw [hk];decide))
 obtain ⟨o,ho⟩:∃ o,o = pnext l bad i:=⟨_,rfl⟩
 rw [← ho] at HX ⊢
 clear h hat ho C
 obtain ⟨t0,t1,t2,t3⟩:=t
 obtain rfl:t0 = 15:=hk
 unfold wFalse at hT
 obtain rfl:t1 = ⟨#[102,97,108,115,101]⟩:=hT
 go_enter Tryz.func83,Tryz.ntmps83
 go_wp2_with fail
 obtain ⟨Wt,hWt⟩:∃ Wt,Wt = w.alloc (.cells #[.int .i64 15,.int .i64 t2,.int .i64 t3,.string ⟨#[102,97,108,115,101]⟩] 58):=⟨_,rfl⟩
 have hbt:Wt.heap[w.heap.size]? = some (.cells #[.int .i64 15,.int .i64 t2,.int .i64 t3,.string ⟨#[102,97,108,115,101]⟩] 58 (0,0)):=by rw [hWt];exact blk_new _ _
 have hBt:Below w.heap.size w Wt:=by rw [hWt];exact below_alloc (Below.refl _ _) _
 rw [← hWt]
 clear hWt c5 c6 c7 c8
 have HBT:=Aside0.mk hbt
 have HBt:=Aside0.mk hBt
 clear hbt hBt
 refine (HX.out Wt HBt.out).mono ?_
 rintro e w2 ⟨h2,ad2⟩
 have HA2:=Aside0.mk ((Adv.of_below HBt.out).trans ad2)
 have HT2:=Aside0.mk (ad2.typed (H.out.keep HBt.out) HBT.out (by decide) (by decide))
 have hz2:w.heap.size ≤ w2.heap.size:=HA2.out.size
 clear ad2
 cases o with
 | none=>
  obtain ⟨q,rfl⟩:=h2
  go_wp2_with fail
  go_ret2
  exact ⟨⟨_,q,rfl,.inl rfl⟩,HA2.out⟩
 | some j=>
  obtain ⟨rfl,t',hat',hp⟩:=h2
  have HP:=Aside0.mk hp
  have HAT:=Aside0.mk hat'
  have k0:=(blk_cell HT2.out 0).trans rfl
  have k1:=(blk_cell HT2.out 1).trans rfl
  have k3:=(blk_cell HT2.out 3).trans rfl
  have hl2:=blk_lt HT2.out
  have HLC:=Aside0.mk (fun W (hb:Below w2.heap.size w2 W)=>loc2_any E W1 W t' t3 t2 (HP.out.keep hb))
  clear hp hat'
  go_wp2_with fail
  refine (HLC.out w2 (Below.refl _ _)).mono ?_
  rintro e w3 ⟨⟨p,rfl,hp3,hp⟩,hb3⟩
  have HB3:=Aside0.mk hb3
  have HL3:=Aside0.mk (And.intro hp3 hp)
  clear hb3 hp hp3
  go_wp2_with fail
  refine (newBool_any _ p ⟨#[]⟩ false _ (blk_new _ _)).mono ?_
  rintro e w4 ⟨⟨r4,k4,rfl,hr4,hc4⟩,hb4⟩
  have HR4:=Aside0.mk (And.intro hr4 hc4)
  have HB4:=Aside0.mk hb4
  clear hr4 hc4 hb4
  go_wp2_with fail
  go_ret2
  have hz3:w2.heap.size ≤ w3.heap.size:=HB3.out.size
  have hb34:Below w3.heap.size w3 w4:=(below_alloc (Below.refl _ _) _).trans (HB4.out.mono (by simp))
  have hb24:Below w2.heap.size w2 w4:=HB3.out.trans (hb34.mono hz3)
  have hq:=HL3.out.1
  have hr:=HR4.out.1
  simp at hr
  exact ⟨⟨_,_,t',_,rfl,.leaf .no (by show w.heap.size ≤ _;omega) HR4.out.2 (by show w.heap.size ≤ _;omega) (HL3.out.2.below hb34),HAT.out,HP.out.keep hb24⟩,HA2.out.trans (Adv.of_below hb24)⟩
set_option maxHeartbeats 4000000 in
theorem lit_text18 {E:PE} {l:List S24} {bad:Bool} (C:Ctx E l bad) (W1 w:World) {i:Nat} {t:S24} (pe:Int) (h:Pk E W1 w t pe) (hat:At E.s l bad i t) (hk:t.f0 = 18) :
  Calls Tryz.prog 83 #[ptr E.P,.bool false] w fun e w'=>ValP E W1 l bad w.heap.size (pleaf ⟨14,⟨#[]⟩,⟨#[]⟩,t.f1,0,0⟩ (pnext l bad i)) e w' ∧ Adv E w w':=by
 have c5:=(blk_cell h.parser 5).trans rfl
 have c6:=(blk_cell h.parser 6).trans rfl
 have c7:=(blk_cell h.parser 7).trans rfl
 have c8:=(blk_cell h.parser 8).trans rfl
 have H:=Aside0.mk h
 have HX:=Aside0.mk (fun W (hb:Below w.heap.size w W)=>parseString_at C W1 W pe (h.keep hb) hat (by rw [hk];decide))
 obtain ⟨RR,hRR⟩:∃ RR,RR = (pleaf ⟨14,⟨#[]⟩,⟨#[]⟩,t.f1,0,0⟩ (pnext l bad i)):=⟨_,rfl⟩
 rw [← hRR] at HX ⊢
 clear h hat C hRR
 obtain ⟨t0,t1,t2,t3⟩:=t
 obtain rfl:t0 = 18:=hk
 go_enter Tryz.func83,Tryz.ntmps83
 go_wp2_with fail
 obtain ⟨Wt,hWt⟩:∃ Wt,Wt = w.alloc (.cells #[.int .i64 18,.int .i64 t2,.int .i64 t3,.string t1] 58):=⟨_,rfl⟩
 have hbt:Wt.heap[w.heap.size]? = some (.cells #[.int .i64 18,.int .i64 t2,.int .i64 t3,.string t1] 58 (0,0)):=by rw [hWt];exact blk_new _ _
 have hBt:Below w.heap.size w Wt:=by rw [hWt];exact below_alloc (Below.refl _ _) _
 rw [← hWt]
 clear hWt c5 c6 c7 c8
 have HBT:=Aside0.mk hbt
 have HBt:=Aside0.mk hBt
 clear hbt hBt
 refine (HX.out Wt HBt.out).mono ?_
 rintro e w2 ⟨h2,ad2⟩
 have HA2:=Aside0.mk ((Adv.of_below HBt.out).trans ad2)
 have hz2:w.heap.size ≤ Wt.heap.size:=HBt.out.size
 clear ad2
 cases RR with
 | none=>
  obtain ⟨q,rfl⟩:=h2
  go_wp2_with fail
  go_ret2
  exact ⟨⟨_,q,rfl,.inr ⟨_,rfl⟩⟩,HA2.out⟩
 | some r=>
  obtain ⟨p,t',pe',rfl,hr,ha,hp⟩:=h2
  have HF:=Aside0.mk (And.intro hr (And.intro ha hp))
  clear hr ha hp
  go_wp2_with fail
  go_ret2
  exact ⟨⟨149,p,t',pe',rfl,HF.out.1.step (Mv.mono fun k hk=>by show w.heap.size ≤ k;have hk:Wt.heap.size ≤ k:=hk;omega),HF.out.2.1,HF.out.2.2⟩,HA2.out⟩
set_option maxHeartbeats 4000000 in
theorem lit_text19 {E:PE} {l:List S24} {bad:Bool} (C:Ctx E l bad) (W1 w:World) {i:Nat} {t:S24} (pe:Int) (h:Pk E W1 w t pe) (hat:At E.s l bad i t) (hk:t.f0 = 19) :
  Calls Tryz.prog 83 #[ptr E.P,.bool false] w fun e w'=>ValP E W1 l bad w.heap.size (pleaf ⟨14,⟨#[]⟩,⟨#[]⟩,t.f1,0,0⟩ (pnext l bad i)) e w' ∧ Adv E w w':=by
 have c5:=(blk_cell h.parser 5).trans rfl
 have c6:=(blk_cell h.parser 6).trans rfl
 have c7:=(blk_cell h.parser 7).trans rfl
 have c8:=(blk_cell h.parser 8).trans rfl
 have H:=Aside0.mk h
 have HX:=Aside0.mk (fun W (hb:Below w.heap.size w W)=>parseString_at C W1 W pe (h.keep hb) hat (by rw [hk];decide))
 obtain ⟨RR,hRR⟩:∃ RR,RR = (pleaf ⟨14,⟨#[]⟩,⟨#[]⟩,t.f1,0,0⟩ (pnext l bad i)):=⟨_,rfl⟩
 rw [← hRR] at HX ⊢
 clear h hat C hRR
 obtain ⟨t0,t1,t2,t3⟩:=t
 obtain rfl:t0 = 19:=hk
 go_enter Tryz.func83,Tryz.ntmps83
 go_wp2_with fail
 obtain ⟨Wt,hWt⟩:∃ Wt,Wt = w.alloc (.cells #[.int .i64 19,.int .i64 t2,.int .i64 t3,.string t1] 58):=⟨_,rfl⟩
 have hbt:Wt.heap[w.heap.size]? = some (.cells #[.int .i64 19,.int .i64 t2,.int .i64 t3,.string t1] 58 (0,0)):=by rw [hWt];exact blk_new _ _
 have hBt:Below w.heap.size w Wt:=by rw [hWt];exact below_alloc (Below.refl _ _) _
 rw [← hWt]
 clear hWt c5 c6 c7 c8
 have HBT:=Aside0.mk hbt
 have HBt:=Aside0.mk hBt
 clear hbt hBt
 refine (HX.out Wt HBt.out).mono ?_
 rintro e w2 ⟨h2,ad2⟩
 have HA2:=Aside0.mk ((Adv.of_below HBt.out).trans ad2)
 have hz2:w.heap.size ≤ Wt.heap.size:=HBt.out.size
 clear ad2
 cases RR with
 | none=>
  obtain ⟨q,rfl⟩:=h2
  go_wp2_with fail
  go_ret2
  exact ⟨⟨_,q,rfl,.inr ⟨_,rfl⟩⟩,HA2.out⟩
 | some r=>
  obtain ⟨p,t',pe',rfl,hr,ha,hp⟩:=h2
  have HF:=Aside0.mk (And.intro hr (And.intro ha hp))
  clear hr ha hp
  go_wp2_with fail
  go_ret2
  exact ⟨⟨149,p,t',pe',rfl,HF.out.1.step (Mv.mono fun k hk=>by show w.heap.size ≤ k;have hk:Wt.heap.size ≤ k:=hk;omega),HF.out.2.1,HF.out.2.2⟩,HA2.out⟩
set_option maxHeartbeats 4000000 in
theorem lit_var {E:PE} {l:List S24} {bad:Bool} (C:Ctx E l bad) (W1 w:World) {i:Nat} {t:S24} (pe:Int) (h:Pk E W1 w t pe) (hat:At E.s l bad i t) (hk:t.f0 = 3) :
  Calls Tryz.prog 83 #[ptr E.P,.bool false] w fun e w'=>ValP E W1 l bad w.heap.size (pvar l bad i) e w' ∧ Adv E w w':=by
 have c5:=(blk_cell h.parser 5).trans rfl
 have c6:=(blk_cell h.parser 6).trans rfl
 have c7:=(blk_cell h.parser 7).trans rfl
 have c8:=(blk_cell h.parser 8).trans rfl
 have H:=Aside0.mk h
 have HX:=Aside0.mk (show ∀ W,Below w.heap.size w W → Calls Tryz.prog 130 #[ptr E.P] W (fun e w'=>PtrP E W1 l bad W.heap.size 141 (pvar l bad i) e w' ∧ Adv E W w') from fun W hb=>parseVar_at C W1 W pe (h.keep hb) hat hk)
 obtain ⟨RR,hRR⟩:∃ RR,RR = (pvar l bad i):=⟨_,rfl⟩
 rw [← hRR] at HX ⊢
 clear h hat C hRR
 obtain ⟨t0,t1,t2,t3⟩:=t
 obtain rfl:t0 = 3:=hk
 go_enter Tryz.func83,Tryz.ntmps83
 go_wp2_with fail
 obtain ⟨Wt,hWt⟩:∃ Wt,Wt = w.alloc (.cells #[.int .i64 3,.int .i64 t2,.int .i64 t3,.string t1] 58):=⟨_,rfl⟩
 have hbt:Wt.heap[w.heap.size]? = some (.cells #[.int .i64 3,.int .i64 t2,.int .i64 t3,.string t1] 58 (0,0)):=by rw [hWt];exact blk_new _ _
 have hBt:Below w.heap.size w Wt:=by rw [hWt];exact below_alloc (Below.refl _ _) _
 rw [← hWt]
 clear hWt c5 c6 c7 c8
 have HBT:=Aside0.mk hbt
 have HBt:=Aside0.mk hBt
 clear hbt hBt
 refine (HX.out Wt HBt.out).mono ?_
 rintro e w2 ⟨h2,ad2⟩
 have HA2:=Aside0.mk ((Adv.of_below HBt.out).trans ad2)
 have hz2:w.heap.size ≤ Wt.heap.size:=HBt.out.size
 clear ad2
 cases RR with
 | none=>
  obtain ⟨q,rfl⟩:=h2
  go_wp2_with fail
  go_ret2
  exact ⟨⟨_,q,rfl,.inr ⟨_,rfl⟩⟩,HA2.out⟩
 | some r=>
  obtain ⟨p,t',pe',rfl,hr,ha,hp⟩:=h2
  have HF:=Aside0.mk (And.intro hr (And.intro ha hp))
  clear hr ha hp
  go_wp2_with fail
  go_ret2
  exact ⟨⟨141,p,t',pe',rfl,HF.out.1.step (Mv.mono fun k hk=>by show w.heap.size ≤ k;have hk:Wt.heap.size ≤ k:=hk;omega),HF.out.2.1,HF.out.2.2⟩,HA2.out⟩
set_option maxHeartbeats 4000000 in
theorem lit_null {E:PE} {l:List S24} {bad:Bool} (C:Ctx E l bad) (W1 w:World) {i:Nat} {t:S24} (pe:Int) (h:Pk E W1 w t pe) (hat:At E.s l bad i t) (hk:t.f0 = 15) (hN:t.f1 = wNull) :
  Calls Tryz.prog 83 #[ptr E.P,.bool false] w fun e w'=>ValP E W1 l bad w.heap.size none e w' ∧ Adv E w w':=by
 have c5:=(blk_cell h.parser 5).trans rfl
 have c6:=(blk_cell h.parser 6).trans rfl
 have c7:=(blk_cell h.parser 7).trans rfl
 have c8:=(blk_cell h.parser 8).trans rfl
 have H:=Aside0.mk h
 have HX:=Aside0.mk (fun W (hb:Below w.heap.size w W)=>unexpected_any C W1 W pe (h.keep hb) hat)
 clear h hat C
 obtain ⟨t0,t1,t2,t3⟩:=t
 obtain rfl:t0 = 15:=hk
 unfold wNull at hN
 obtain rfl:t1 = ⟨#[110,117,108,108]⟩:=hN
 go_enter Tryz.func83,Tryz.ntmps83
 go_wp2_with fail
 obtain ⟨Wt,hWt⟩:∃ Wt,Wt = w.alloc (.cells #[.int .i64 15,.int .i64 t2,.int .i64 t3,.string ⟨#[110,117,108,108]⟩] 58):=⟨_,rfl⟩
 have hbt:Wt.heap[w.heap.size]? = some (.cells #[.int .i64 15,.int .i64 t2,.int .i64 t3,.string ⟨#[110,117,108,108]⟩] 58 (0,0)):=by rw [hWt];exact blk_new _ _
 have hBt:Below w.heap.size w Wt:=by rw [hWt];exact below_alloc (Below.refl _ _) _
 rw [← hWt]
 clear hWt c5 c6 c7 c8
 have HBT:=Aside0.mk hbt
 have HBt:=Aside0.mk hBt
 clear hbt hBt
 refine (HX.out Wt HBt.out).mono ?_
 rintro e w2 ⟨⟨q,rfl⟩,hb2⟩
 have HB2:=Aside0.mk (HBt.out.trans (hb2.mono HBt.out.size))
 clear hb2
 go_wp2_with fail
 go_ret2
 exact ⟨⟨_,q,rfl,.inl rfl⟩,Adv.of_below HB2.out⟩
set_option maxHeartbeats 4000000 in
theorem lit_else {E:PE} {l:List S24} {bad:Bool} (C:Ctx E l bad) (W1 w:World) {i:Nat} {t:S24} (pe:Int) (h:Pk E W1 w t pe) (hat:At E.s l bad i t) (h3:t.f0 ≠ 3) (h10:t.f0 ≠ 10) (h12:t.f0 ≠ 12) (h15:t.f0 ≠ 15) (h16:t.f0 ≠ 16) (h17:t.f0 ≠ 17) (h18:t.f0 ≠ 18) (h19:t.f0 ≠ 19) :
  Calls Tryz.prog 83 #[ptr E.P,.bool false] w fun e w'=>ValP E W1 l bad w.heap.size none e w' ∧ Adv E w w':=by
 have c5:=(blk_cell h.parser 5).trans rfl
 have c6:=(blk_cell h.parser 6).trans rfl
 have c7:=(blk_cell h.parser 7).trans rfl
 have c8:=(blk_cell h.parser 8).trans rfl
 have H:=Aside0.mk h
 have HX:=Aside0.mk (fun W (hb:Below w.heap.size w W)=>unexpected_any C W1 W pe (h.keep hb) hat)
 clear h hat C
 obtain ⟨t0,t1,t2,t3⟩:=t
 have b3:(t0 == 3) = false:=by simpa using h3
 have b10:(t0 == 10) = false:=by simpa using h10
 have b12:(t0 == 12) = false:=by simpa using h12
 have b15:(t0 == 15) = false:=by simpa using h15
 have b16:(t0 == 16) = false:=by simpa using h16
 have b17:(t0 == 17) = false:=by simpa using h17
 have b18:(t0 == 18) = false:=by simpa using h18
 have b19:(t0 == 19) = false:=by simpa using h19
 clear h3 h10 h12 h15 h16 h17 h18 h19
 go_enter Tryz.func83,Tryz.ntmps83
 go_wp2_with fail
 obtain ⟨Wt,hWt⟩:∃ Wt,Wt = w.alloc (.cells #[.int .i64 t0,.int .i64 t2,.int .i64 t3,.string t1] 58):=⟨_,rfl⟩
 have hbt:Wt.heap[w.heap.size]? = some (.cells #[.int .i64 t0,.int .i64 t2,.int .i64 t3,.string t1] 58 (0,0)):=by rw [hWt];exact blk_new _ _
 have hBt:Below w.heap.size w Wt:=by rw [hWt];exact below_alloc (Below.refl _ _) _
 rw [← hWt]
 clear hWt c5 c6 c7 c8
 have HBT:=Aside0.mk hbt
 have HBt:=Aside0.mk hBt
 clear hbt hBt
 refine (HX.out Wt HBt.out).mono ?_
 rintro e w2 ⟨⟨q,rfl⟩,hb2⟩
 have HB2:=Aside0.mk (HBt.out.trans (hb2.mono HBt.out.size))
 clear hb2
 go_wp2_with fail
 go_ret2
 exact ⟨⟨_,q,rfl,.inl rfl⟩,Adv.of_below HB2.out⟩
def PGoes (g:Nat → Option (List S50 × Nat)):Prop:=∀ j r,g j = some r → j < r.2
theorem plist_goes {c:Int} {g:Nat → Option (List S50 × Nat)} {l:List S24} {bad:Bool} (hg:PGoes g):∀ (k j:Nat) (acc:List (List S50)) (r:List (List S50) × Nat),plist c g l bad k j acc = some r → j < r.2
 | 0,j,acc,r,h=>by rw [plist] at h;cases h
 | k + 1,j,acc,r,h=>by
  rw [plist] at h
  split at h
  ·cases hp:pnext l bad j with
   | none=>rw [hp] at h;cases h
   | some j1=>
    rw [hp] at h
    obtain ⟨rfl,-⟩:=pnext_some hp
    injection h with h
    rw [← h]
    exact Nat.lt_succ_self _
  ·cases hq:g j with
   | none=>rw [hq] at h;cases h
   | some q=>
    rw [hq] at h
    have h1:=hg j q hq
    have h2:=plist_goes hg k q.2 _ r h
    omega
theorem pfield_goes {q:Int} {g:Nat → Option (List S50 × Nat)} {l:List S24} {bad:Bool} (hg:PGoes g):PGoes (pfield q g l bad):=by
 intro j r h
 unfold pfield at h
 split at h
 ·cases hp:pnext l bad j with
  | none=>rw [hp] at h;cases h
  | some j1=>
   rw [hp] at h
   obtain ⟨rfl,-⟩:=pnext_some hp
   dsimp only at h
   split at h
   ·cases hp2:pnext l bad (j + 1) with
    | none=>rw [hp2] at h;cases h
    | some j2=>
     rw [hp2] at h
     obtain ⟨rfl,-⟩:=pnext_some hp2
     dsimp only at h
     cases hq:g (j + 1 + 1) with
     | none=>rw [hq] at h;cases h
     | some x=>
      rw [hq] at h
      injection h with h
      have:=hg _ _ hq
      rw [← h]
      show j < x.2
      omega
   ·cases h
 ·cases h
theorem pleaf_goes {l:List S24} {bad:Bool} {x:S50} {i:Nat} {r:List S50 × Nat} (h:pleaf x (pnext l bad i) = some r):i < r.2:=by
 cases hp:pnext l bad i with
 | none=>rw [hp] at h;cases h
 | some j=>
  rw [hp] at h
  obtain ⟨rfl,-⟩:=pnext_some hp
  injection h with h
  rw [← h]
  exact Nat.lt_succ_self _
theorem pval_goes (l:List S24) (bad:Bool):∀ n,PGoes (pval l bad n)
 | 0=>fun j r h=>by rw [pval] at h;cases h
 | n + 1=>fun i r h=>by
  have ih:=pval_goes l bad n
  rw [pval] at h
  split at h
  ·cases hp:pnext l bad i with
   | none=>rw [hp] at h;cases h
   | some j=>
    rw [hp] at h
    obtain ⟨rfl,-⟩:=pnext_some hp
    dsimp only at h
    cases hq:plist 11 (pval l bad n) l bad (l.length + 1) (i + 1) [] with
    | none=>rw [hq] at h;cases h
    | some q=>
     rw [hq] at h
     injection h with h
     have:=plist_goes ih _ _ _ _ hq
     rw [← h]
     show i < q.2
     omega
  split at h
  ·cases hp:pnext l bad i with
   | none=>rw [hp] at h;cases h
   | some j=>
    rw [hp] at h
    obtain ⟨rfl,-⟩:=pnext_some hp
    dsimp only at h
    cases hq:plist 14 (pfield 19 (pval l bad n) l bad) l bad (l.length + 1) (i + 1) [] with
    | none=>rw [hq] at h;cases h
    | some q=>
     rw [hq] at h
     injection h with h
     have:=plist_goes (pfield_goes ih) _ _ _ _ hq
     rw [← h]
     show i < q.2
     omega
  split at h
  ·exact pleaf_goes h
  split at h
  ·exact pleaf_goes h
  split at h
  ·exact pleaf_goes h
  split at h
  ·split at h
   ·exact pleaf_goes h
   split at h
   ·exact pleaf_goes h
   split at h
   ·cases h
   ·exact pleaf_goes h
  split at h
  ·cases hp:pnext l bad i with
   | none=>rw [hp] at h;cases h
   | some j=>
    rw [hp] at h
    obtain ⟨rfl,-⟩:=pnext_some hp
    dsimp only at h
    split at h
    ·have:=pleaf_goes h;omega
    ·cases h
  ·cases h
theorem R_adv {α:Type} {d:Kd α} {E:PE} {W0 W W1:World} {t:S24} {pe:Int} {e base:Nat} {ok:Nat → Prop} {v:Value} {xs:List α} (hR:d.R e W base ok v xs) (hp:Pk E W0 W t pe) (h:Adv E W W1) (hE:∀ q,q ∈ e :: d.E → q ≠ 125 ∧ q ≠ 3):d.R e W1 base ok v xs:=by
 have h1:=Kd.R_types hR hp.parser (fun q hq=>(hE q hq).1)
 have h2:=Kd.R_types h1 hp.place (fun q hq=>(hE q hq).2)
 exact Kd.R_mono (Kd.R_step h2 (fun k hk hl=>h.block k hl hk.1.2 hk.2)) (fun k hk=>hk.1.1)
theorem R_empty {α:Type} (d:Kd α) {e base b:Nat} {W:World} (h:W.heap[b]? = some (.cells #[] e (0,0))) (hb:base ≤ b):d.R e W base (fun _=>True) (.slice (some ⟨b,0,none⟩) 0 0) []:=
 ⟨fun _ _=>trivial,[],⟨by simp,.inr ⟨b,0,#[],rfl,hb,h,Nat.le_refl _,by decide,by simp,by simp⟩⟩,Reps.none _ _⟩
theorem row_lt {α:Type} {d:Kd α} {e base:Nat} {ok:Nat → Prop} {W:World} {v:Value} {xs:List α} (h:d.R e W base ok v xs):∀ b,v.ownBlock = some b → b < W.heap.size:=by
 obtain ⟨inner,ho⟩:=Kd.R_own h
 exact fun b hb=>own_lt ho b hb
structure PLoop (E:PE) (W1:World) (l:List S24) (bad:Bool) (c:Int) (g:Nat → Option (List S50 × Nat)) (RR:Option (List (List S50) × Nat)) (w wr:World) (i k j:Nat) (acc:List (List S50)) (t:S24) (pe:Int):Prop where
 eq:plist c g l bad k j acc = RR
 k0:l.length < j + k
 ij:i < j
 many:acc.length ≤ j
 hat:At E.s l bad j t
 pk:Pk E W1 wr t pe
 adv:Adv E w wr
theorem PLoop.out {E:PE} {W1:World} {l:List S24} {bad:Bool} {c:Int} {g:Nat → Option (List S50 × Nat)} {RR:Option (List (List S50) × Nat)} {w wr:World} {i k j:Nat} {acc:List (List S50)} {t:S24} {pe:Int} (h:PLoop E W1 l bad c g RR w wr i k j acc t pe) (hc:t.f0 = c):RR = (match pnext l bad j with | none=>none | some j'=>some (acc,j')):=by
 have:=h.eq
 have hk:=h.k0
 have hj:=h.hat.le
 cases k with
 | zero=>omega
 | succ k=>rw [plist,h.hat.kd,if_pos hc] at this;exact this.symm
theorem PLoop.none {E:PE} {W1:World} {l:List S24} {bad:Bool} {c:Int} {g:Nat → Option (List S50 × Nat)} {RR:Option (List (List S50) × Nat)} {w wr:World} {i k j:Nat} {acc:List (List S50)} {t:S24} {pe:Int} (h:PLoop E W1 l bad c g RR w wr i k j acc t pe) (hc:t.f0 ≠ c) (hg:g j = none):RR = none:=by
 have:=h.eq
 have hk:=h.k0
 have hj:=h.hat.le
 cases k with
 | zero=>omega
 | succ k=>rw [plist,h.hat.kd,if_neg hc,hg] at this;exact this.symm
theorem PLoop.more {E:PE} {W1:World} {l:List S24} {bad:Bool} {c:Int} {g:Nat → Option (List S50 × Nat)} {RR:Option (List (List S50) × Nat)} {w wr w2:World} {i k j:Nat} {acc:List (List S50)} {t t':S24} {pe pe':Int} {r:List S50 × Nat} (h:PLoop E W1 l bad c g RR w wr i k j acc t pe) (hc:t.f0 ≠ c) (hg:g j = some r) (hgo:PGoes g)
  (hat:At E.s l bad r.2 t') (hp:Pk E W1 w2 t' pe') (ha:Adv E w w2):PLoop E W1 l bad c g RR w w2 i (k - 1) r.2 (acc ++ [r.1]) t' pe':=by
 have:=h.eq
 have hk:=h.k0
 have hj:=h.hat.le
 have hlt:=hgo j r hg
 have hm:=h.many
 have hi:=h.ij
 cases k with
 | zero=>omega
 | succ k=>
  rw [plist,h.hat.kd,if_neg hc,hg] at this
  exact ⟨this,by show l.length < r.2 + k;omega,by omega,by rw [List.length_append,List.length_singleton];omega,hat,hp,ha⟩
end Go.Proofs.YtbobbognjmofdaaGreatDoor.Lex
end
