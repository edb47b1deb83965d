import Derived.Test.YtbobbognjmofdaaGreatDoorV21
import Derived.Test.YtbobbognjmofdaaGreatDoorV19
import Derived.Test.YtbobbognjmofdaaGreatDoorV20
section
namespace Go.Proofs.YtbobbognjmofdaaGreatDoor.Lex
open Go.RowKit Go.Proofs.YtbobbognjmofdaaGreatDoorW.PrintWords Go.Proofs.YtbobbognjmofdaaGreatDoorW.PrintLast Go.Proofs.YtbobbognjmofdaaGreatDoorW.PrintMore
open Go.Proofs.YtbobbognjmofdaaGreatDoor.Ptext
set_option linter.unusedVariables false
set_option linter.unusedSimpArgs false
theorem info20:(Tryz.prog.info? 20).map (fun i=>(i.zero,i.size,i.bytes)) = some (some .nilIface,1,16):=by kernel_rfl
set_option maxHeartbeats 1000000 in
theorem empty_any {E:PE} {l:List S24} {bad:Bool} (C:Ctx E l bad) (W1 w:World) {t:S24} (pe st a b:Int) (h:Pk E W1 w t pe) (s0:0 ≤ st) (s1:st ≤ 2000) :
  Calls Tryz.prog 162 #[ptr E.P,.int .i64 st,.int .i64 a,.int .i64 b] w fun e w'=>(∃ q,e = .returned (.iface 182 (ptr q))) ∧ Below w.heap.size w w':=by
 obtain ⟨g1,g2⟩:=h.sourced
 have HSY:=Aside0.mk (fun W (hb:Below w.heap.size w W) (d:ByteArray)=>PFnReadString.synErr_any E.s E.g (some ⟨E.b,0,none⟩) E.c st d W (PFnReadString.old_cell hb g1) (g2.below hb).cells g2.le C.ss s0 s1)
 have c1:=(blk_cell h.parser 1).trans rfl
 clear h g1 g2 C s0 s1
 go_enter Tryz.func162,Tryz.ntmps162
 go_wp2_with fail
 refine (HSY.out w (Below.refl _ _) _).mono ?_
 rintro e w2 ⟨⟨q,rfl⟩,hb2⟩
 have HB2:=Aside0.mk hb2
 clear hb2
 go_wp2_with fail
 go_ret
 exact ⟨⟨q,rfl⟩,HB2.out⟩
def ItemP (d:Kd (List S50)) (E:PE) (W1:World) (l:List S24) (bad:Bool) (lo:Nat) (o:Option (List S50 × Nat)) (e:Ending) (w':World):Prop:=
 match o with
 | none=>∃ v q,e = .returned (.tuple #[v,.iface 182 (ptr q)]) ∧ IfV v
 | some r=>∃ I p t' pe',e = .returned (.tuple #[.iface I (ptr p),.nilIface]) ∧ d.M w' lo (fun _=>True) r.1 [.iface I (ptr p)] ∧ At E.s l bad r.2 t' ∧ Pk E W1 w' t' pe'
def RevP (d:Kd (List S50)) (E:PE) (W1:World) (l:List S24) (bad:Bool) (lo:Nat) (z:Bool) (o:Option (List (List S50) × Nat)) (e:Ending) (w':World):Prop:=
 match o with
 | none=>∃ v q,e = .returned (.tuple #[v,.iface 182 (ptr q)])
 | some r=>((z = true ∧ r.1 = []) ∧ ∃ v q,e = .returned (.tuple #[v,.iface 182 (ptr q)])) ∨ (¬ (z = true ∧ r.1 = []) ∧ ∃ v t' pe',e = .returned (.tuple #[v,.nilIface]) ∧ d.R 20 w' lo (fun _=>True) v r.1 ∧ At E.s l bad r.2 t' ∧ Pk E W1 w' t' pe')
def prest (c:Int) (g:Nat → Option (List S50 × Nat)) (l:List S24) (bad:Bool) (o:Option Nat):Option (List (List S50) × Nat):=match o with | none=>none | some j=>plist c g l bad (l.length + 1) j []
def pround (c:Int) (g:Nat → Option (List S50 × Nat)) (l:List S24) (bad:Bool) (i:Nat):Option (List (List S50) × Nat):=prest c g l bad (pnext l bad i)
set_option maxRecDepth 8000 in
set_option maxHeartbeats 4000000 in
theorem reverse_any {E:PE} {l:List S24} {bad:Bool} (C:Ctx E l bad) (d:Kd (List S50)) (hsz:d.sz = 1) (hE:∀ q,q ∈ 20 :: d.E → q ≠ 125 ∧ q ≠ 3) (f:Nat) (hf:f = 154 ∨ f = 134) (g:Nat → Option (List S50 × Nat)) (hg:PGoes g) (ok ck:Int) (hok:ok ≠ 1) (hck:ck ≠ 1) (z:Bool)
  (W1 w:World) {i:Nat} {t:S24} (pe:Int) (h:Pk E W1 w t pe) (hat:At E.s l bad i t) (hk:t.f0 = ok)
  (HI:∀ (W:World) (j:Nat) (t':S24) (pe':Int),Pk E W1 W t' pe' → At E.s l bad j t' → i < j → Calls Tryz.prog f #[ptr E.P] W fun e w'=>ItemP d E W1 l bad W.heap.size (g j) e w' ∧ Adv E W w') :
  Calls Tryz.prog 133 #[ptr E.P,.int .i64 ok,.func (.func f) #[] #[],.int .i64 ck,.bool z] w fun e w'=>RevP d E W1 l bad w.heap.size z (pround ck g l bad i) e w' ∧ Adv E w w':=by
 have hx:=expect_at C W1 w pe ok h hat hok
 rw [hat.kd,if_pos hk] at hx
 have HX:=Aside0.mk hx
 have HII:=Aside0.mk HI
 have HC:=Aside0.mk C
 have hst:=C.start hat
 have hll:=C.ll
 obtain ⟨o,ho⟩:∃ o,o = pnext l bad i:=⟨_,rfl⟩
 obtain ⟨RR,hRR⟩:∃ RR,RR = pround ck g l bad i:=⟨_,rfl⟩
 have hRE:RR = prest ck g l bad o:=by rw [hRR,ho];rfl
 have hoi:∀ j,o = some j → j = i + 1:=fun j e=>(pnext_some (ho.symm.trans e)).1
 rw [← ho] at HX
 rw [← hRR]
 have HRE:=Aside0.mk hRE
 have HP0:E.P < w.heap.size:=blk_lt h.parser
 have HP1:E.pb < w.heap.size:=blk_lt h.place
 have HP2:E.sb < w.heap.size:=blk_lt h.source
 have HP3:W1.heap.size ≤ w.heap.size:=h.below.size
 have HOI:=Aside0.mk hoi
 have HST:=Aside0.mk hst
 have HG:=Aside0.mk hg
 have HEE:=Aside0.mk hE
 clear h hat hx HI C hRR hRE ho hoi hst hg hE
 obtain ⟨t0,t1,t2,t3⟩:=t
 obtain rfl:t0 = ok:=hk
 rcases hf with rfl | rfl
 all_goals
  go_enter Tryz.func133,Tryz.ntmps133
  go_wp2_with fail
  refine HX.out.mono ?_
  rintro e w2 ⟨h2,ad2⟩
  have HA2:=Aside0.mk ad2
  have hz2:w.heap.size ≤ w2.heap.size:=ad2.size
  clear ad2
  cases o with
  | none=>
   obtain ⟨q,rfl⟩:=h2
   go_wp2_with fail
   go_ret2
   exact ⟨by rw [show RR = none from HRE.out];exact ⟨_,q,rfl⟩,HA2.out.trans (Adv.of_below (below_alloc (Below.refl _ _) _))⟩
  | some j0=>
   obtain rfl:=HOI.out j0 rfl
   obtain ⟨rfl,t',hat',hp⟩:=h2
   have HP:=Aside0.mk hp
   have HAT:=Aside0.mk hat'
   clear hp hat'
   go_wp2_with fail
   obtain ⟨W2,hW2⟩:∃ W2,W2 = w2.alloc (.cells #[.int .i64 t0,.int .i64 t2,.int .i64 t3,.string t1] 58):=⟨_,rfl⟩
   have hE2:W2.heap[w2.heap.size]? = some (.cells #[.int .i64 t0,.int .i64 t2,.int .i64 t3,.string t1] 58 (0,0)):=by rw [hW2];exact blk_new _ _
   have hB:Below w2.heap.size w2 W2:=by rw [hW2];exact below_alloc (Below.refl _ _) _
   rw [← hW2]
   clear hW2
   have hl0:l.length < (i + 1) + (l.length + 1):=by omega
   have HL0:Aside0 (PLoop E W1 l bad ck g RR w W2 i (l.length + 1) (i + 1) [] t' t3):=⟨⟨HRE.out.symm,hl0,Nat.lt_succ_self _,Nat.zero_le _,HAT.out,HP.out.keep hB,HA2.out.trans (Adv.of_below hB)⟩⟩
   have HB0:Aside0 (W2.heap[w2.heap.size]? = some (.cells #[.int .i64 t0,.int .i64 t2,.int .i64 t3,.string t1] 58 (0,0))):=⟨hE2⟩
   clear hE2 hB
   go_loopw [14] (fun v14 wr=>∃ (vk:Value) (k j:Nat) (acc:List (List S50)) (t':S24) (pe':Int),vk = v14 ∧ Aside0 (PLoop E W1 l bad ck g RR w wr i k j acc t' pe' ∧ d.R 20 wr w.heap.size (fun _=>True) vk acc ∧ wr.heap[w2.heap.size]? = some (.cells #[.int .i64 t0,.int .i64 t2,.int .i64 t3,.string t1] 58 (0,0)))) (fun v14 _=>4000 - lenS v14)
   case atStart=>exact ⟨_,_,_,_,_,_,rfl,⟨HL0.out,Kd.R_nil _ _ _ _ _,HB0.out⟩⟩
   case round=>
    clear HL0 HB0
    obtain ⟨vk,k,j,acc,tj,pj,rfl,HA⟩:=hrel
    have hmany:acc.length ≤ 2000:=by have:=HA.out.1.many;have:=HA.out.1.hat.le;omega
    obtain ⟨Ak,ck',hvk,-,-⟩:=Kd.R_reads HA.out.2.1
    have hls:lenS vk = acc.length:=by rw [hvk];rfl
    by_cases hc:tj.f0 = ck
    ·have hs:=skip_at HC.out W1 wr pj HA.out.1.pk HA.out.1.hat (by rw [hc];exact hck)
     rw [hc] at hs
     have hRR2:=HA.out.1.out hc
     obtain ⟨o2,ho2⟩:∃ o2,o2 = pnext l bad j:=⟨_,rfl⟩
     rw [← ho2] at hs hRR2
     have HS:=Aside0.mk hs
     have HR2:=Aside0.mk hRR2
     clear hs hRR2 ho2 hc
     go_wp2_with fail
     refine HS.out.mono ?_
     rintro e w3 ⟨h3,ad3⟩
     have HA3:=Aside0.mk (HA.out.1.adv.trans ad3)
     have HK3:=Aside0.mk (R_adv HA.out.2.1 HA.out.1.pk ad3 HEE.out)
     have HB3:=Aside0.mk (ad3.typed HA.out.1.pk HA.out.2.2 (by decide) (by decide))
     clear ad3
     cases o2 with
     | none=>
      obtain ⟨q,rfl⟩:=h3
      go_wp2_with fail
      go_ret2
      exact ⟨by rw [HR2.out];exact ⟨_,q,rfl⟩,HA3.out⟩
     | some j2=>
      obtain ⟨rfl,t2',hat2,hp2⟩:=h3
      have HAT2:=Aside0.mk hat2
      have HP2':=Aside0.mk hp2
      clear hat2 hp2
      subst hvk
      cases z with
      | false=>
       go_wp2_with fail
       go_ret2
       exact ⟨by rw [HR2.out];exact .inr ⟨(by rintro ⟨h,-⟩;cases h),_,t2',_,rfl,HK3.out,HAT2.out,HP2'.out⟩,HA3.out⟩
      | true=>
       cases hacc:acc with
       | nil=>
        subst hacc
        have k2:=(blk_cell HB3.out 1).trans rfl
        have hl2:=blk_lt HB3.out
        go_wp2_with fail
        refine (empty_any HC.out W1 w3 _ t2 _ _ HP2'.out HST.out.1 HST.out.2).mono ?_
        rintro e w4 ⟨⟨q,rfl⟩,hb4⟩
        have HB4:=Aside0.mk hb4
        clear hb4
        go_wp2_with fail
        go_ret2
        exact ⟨by rw [HR2.out];exact .inl ⟨⟨rfl,rfl⟩,_,q,rfl⟩,HA3.out.trans (Adv.of_below HB4.out)⟩
       | cons a0 as0=>
        have hb0:(((a0 :: as0).length:Int) == 0) = false:=by simp;omega
        subst hacc
        go_wp2_with fail
        go_ret2
        exact ⟨by rw [HR2.out];exact .inr ⟨(by rintro ⟨-,h⟩;cases h),_,t2',_,rfl,HK3.out,HAT2.out,HP2'.out⟩,HA3.out⟩
    ·have HSN:=Aside0.mk (skip_no E W1 wr tj pj ck HA.out.1.pk hc)
     have HIT:=Aside0.mk (HII.out wr j tj pj HA.out.1.pk HA.out.1.hat HA.out.1.ij)
     obtain ⟨gj,hgj⟩:∃ gj,gj = g j:=⟨_,rfl⟩
     rw [← hgj] at HIT
     have HGJ:=Aside0.mk (And.intro hc hgj.symm)
     clear hc hgj
     go_wp2_with fail
     refine HSN.out.mono ?_
     rintro e w3 ⟨rfl,rfl⟩
     go_wp2_with fail
     refine HIT.out.mono ?_
     rintro e w3 ⟨h3,ad3⟩
     have HA3:=Aside0.mk (HA.out.1.adv.trans ad3)
     have HK3:=Aside0.mk (R_adv HA.out.2.1 HA.out.1.pk ad3 HEE.out)
     have HB3:=Aside0.mk (ad3.typed HA.out.1.pk HA.out.2.2 (by decide) (by decide))
     have hz3:=ad3.size
     clear ad3
     cases gj with
     | none=>
      obtain ⟨v,q,rfl,-⟩:=h3
      go_wp2_with fail
      go_ret2
      exact ⟨by rw [HA.out.1.none HGJ.out.1 HGJ.out.2];exact ⟨_,q,rfl⟩,HA3.out⟩
     | some r=>
      obtain ⟨I,p,tr,pr,rfl,hm,hatr,hpr⟩:=h3
      have HM:=Aside0.mk hm
      have HPR:=Aside0.mk hpr
      have HATR:=Aside0.mk hatr
      clear hm hpr hatr
      have hb3:w.heap.size ≤ w3.heap.size:=HA3.out.size
      have hl16:(acc.length + 1) * 16 ≤ 140737488355328:=by omega
      have hlt:∀ b,vk.ownBlock = some b → b < wr.heap.size:=row_lt HA.out.2.1
      have hzr:w.heap.size ≤ wr.heap.size:=HA.out.1.adv.size
      have HMM:Aside0 (d.M w3 w.heap.size (fun k=>True ∧ some k ≠ vk.ownBlock) r.1 [.iface I (ptr p)]):=⟨d.M_mono (fun k hk=>⟨trivial,fun e=>by have:=hlt k e.symm;have:=hk.2.1;omega⟩) (d.M_lower hzr (d.M_bound HM.out))⟩
      subst hvk
      go_wp2_with (at_builtin;refine Kd.R_append d (w0:=w3) w.heap.size rfl (.tmp 48) (.tmp 50) 224 20 .nilIface 16 rfl Tryz.underlying224 (by rw [hsz];exact info20) (by rw [hsz];rfl) (by rw [hsz];decide) (by decide) _ acc r.1 [.iface I (ptr p)] (fun _=>True) _ rfl rfl HMM.out (fun _ hk=>hk) (fun _ _=>trivial) HK3.out (Below.refl _ _) hb3 hl16 ?_;intro v6 w6 hR6 hB6 hg6 hat6;have HN:=Aside0.mk (HA.out.1.more HGJ.out.1 HGJ.out.2 HG.out HATR.out (HPR.out.then_below hB6 HP3 HP0 HP1 HP2) (HA3.out.then_below hB6));have HR6:=Aside0.mk hR6;have HB6:Aside0 (w6.heap[w2.heap.size]? = some (.cells #[.int .i64 t0,.int .i64 t2,.int .i64 t3,.string t1] 58 (0,0))):=⟨blk_own HB3.out hg6 (Kd.R_typed HK3.out) (by decide)⟩;clear hR6 hB6 hg6 hat6)
      have hl6:lenS v6 = acc.length + 1:=by obtain ⟨A,c,he⟩:=Kd.R_slice HR6.out;rw [he];simp [lenS]
      go_roundw
      case rel=>first | exact ⟨_,_,_,_,_,_,rfl,⟨HN.out,HR6.out,HB6.out⟩⟩ | exact ⟨_,_,_,_,_,⟨HN.out,HR6.out,HB6.out⟩⟩
      case measure=>first | omega | (rw [hl6];simp [lenS];omega)
theorem run_assert_to {P:Program} {T I:TypeId} {want:Array (String × TypeId)} (hu:P.underlying T = some (.interface want)) (hm:(P.info? I).map (fun i=>Instr.missingMethod want i.methods) = some none) (v:Value) (xT:TypeId) (w:World):(Instr.typeAssert (.iface I v) xT T false).run P w = .ok (.iface I v) w:=by
 obtain ⟨i,hi,hzi⟩:=Option.map_eq_some_iff.1 hm
 simp [Instr.typeAssert,run_underlying hu,typeInfo,hi,hzi]
theorem RepV.itype {W:World} {ok:Nat → Prop} {ns:List S50} {I p:Nat} (h:RepV W ok ns I p):I = 141 ∨ I = 144 ∨ I = 147 ∨ I = 149 ∨ I = 151 ∨ I = 154 ∨ I = 156 ∨ I = 160:=by
 cases h with
 | leaf hl=>cases hl <;> simp
 | var=>simp
 | list=>simp
 | obj=>simp
theorem assert95 {I:Nat} (h:I = 141 ∨ I = 144 ∨ I = 147 ∨ I = 149 ∨ I = 151 ∨ I = 154 ∨ I = 156 ∨ I = 160) (v:Value) (w:World):(Instr.typeAssert (.iface I v) 20 95 false).run Tryz.prog w = .ok (.iface I v) w:=by
 rcases h with rfl | rfl | rfl | rfl | rfl | rfl | rfl | rfl <;> exact run_assert_to Tryz.underlying95 (by kernel_rfl) v 20 w
theorem info95:(Tryz.prog.info? 95).map (fun i=>(i.zero,i.size,i.bytes)) = some (some .nilIface,1,16):=by kernel_rfl
theorem R_get {α:Type} {d:Kd α} {e base:Nat} {ok:Nat → Prop} {W:World} {v:Value} {xs:List α} (h:d.R e W base ok v xs) (hs:d.sz = 1) (i:Nat) (hi:i < xs.length):∃ (ad:Addr) (c:Nat) (u:Value),v = .slice (some ad) xs.length c ∧ W.cell? (ad.add i) = some u ∧ d.M W base (fun k=>ok k ∧ some k ≠ v.ownBlock) xs[i] [u]:=by
 obtain ⟨inner,ho,hl,hm⟩:=R_parts h hs
 have hi2:i < inner.length:=by omega
 have hm:=hm i hi hi2
 rcases ho.2 with ⟨rfl,hn⟩ | ⟨g,cap,cur,rfl,hg,hh,hnc,hcm,hcs,ht⟩
 ·omega
 refine ⟨⟨g,0,none⟩,cap,inner[i],rfl,?_,hm⟩
 rw [addr_add0,blk_cell hh i]
 have hsz:cur.toList.length = cap:=by rw [Array.length_toList,hcs];omega
 have:(cur.toList.take (xs.length * 1))[i]? = inner[i]?:=by rw [ht]
 rw [List.getElem?_take,if_pos (by omega)] at this
 rw [← Array.getElem?_toList,this]
 exact List.getElem?_eq_getElem hi2
theorem valueValue_at {E:PE} {l:List S24} {bad:Bool} (W1 w:World) {i:Nat} (o:Option (List S50 × Nat))
  (HV:Calls Tryz.prog 83 #[ptr E.P,.bool false] w fun e w'=>ValP E W1 l bad w.heap.size o e w' ∧ Adv E w w') :
  Calls Tryz.prog 154 #[ptr E.P] w fun e w'=>ItemP kV E W1 l bad w.heap.size o e w' ∧ Adv E w w':=by
 have HX:=Aside0.mk HV
 clear HV
 go_enter Tryz.func154,Tryz.ntmps154
 go_wp2_with fail
 refine HX.out.mono ?_
 rintro e w2 ⟨h2,ad2⟩
 have HA2:=Aside0.mk ad2
 clear ad2
 cases o with
 | none=>
  obtain ⟨v,q,rfl,hv⟩:=h2
  rcases hv with rfl | ⟨T,rfl⟩
  ·go_wp2_with fail
   go_ret2
   exact ⟨⟨_,q,rfl,.inl rfl⟩,HA2.out⟩
  ·go_wp2_with fail
   go_ret2
   exact ⟨⟨_,q,rfl,.inr ⟨T,rfl⟩⟩,HA2.out⟩
 | some r=>
  obtain ⟨I,p,t',pe',rfl,hr,hat,hp⟩:=h2
  have HF:=Aside0.mk (And.intro hr (And.intro hat hp))
  clear hr hat hp
  go_wp2_with fail
  go_ret2
  exact ⟨⟨I,p,t',pe',rfl,⟨I,p,rfl,HF.out.1.step (Mv.mono fun k hk=>⟨trivial,hk⟩)⟩,HF.out.2.1,HF.out.2.2⟩,HA2.out⟩
theorem plist_len {c:Int} (hc:c ≠ 1) {g:Nat → Option (List S50 × Nat)} {l:List S24} {bad:Bool} (hg:PGoes g):∀ (k j:Nat) (acc:List (List S50)) (r:List (List S50) × Nat),plist c g l bad k j acc = some r → r.1.length + j + 1 ≤ acc.length + r.2 ∧ r.2 ≤ l.length
 | 0,j,acc,r,h=>by rw [plist] at h;cases h
 | k + 1,j,acc,r,h=>by
  rw [plist] at h
  split at h
  ·rename_i hk
   have hj:=kd_in (l:=l) (i:=j) (by rw [hk];exact hc)
   cases hp:pnext l bad j with
   | none=>rw [hp] at h;cases h
   | some j1=>
    rw [hp] at h
    obtain ⟨rfl,-⟩:=pnext_some hp
    injection h with h
    rw [← h]
    exact ⟨Nat.le_refl _,hj⟩
  ·cases hq:g j with
   | none=>rw [hq] at h;cases h
   | some q=>
    rw [hq] at h
    have h1:=hg j q hq
    obtain ⟨h2,h3⟩:=plist_len hc hg k q.2 _ r h
    rw [List.length_append,List.length_singleton] at h2
    exact ⟨by omega,h3⟩
theorem pround_len {c:Int} (hc:c ≠ 1) {g:Nat → Option (List S50 × Nat)} {l:List S24} {bad:Bool} (hg:PGoes g) {i:Nat} {r:List (List S50) × Nat} (h:pround c g l bad i = some r):r.1.length ≤ l.length:=by
 unfold pround at h
 cases hp:pnext l bad i with
 | none=>rw [hp] at h;cases h
 | some j=>
  rw [hp] at h
  have:=plist_len hc hg _ _ _ r h
  simp at this
  omega
theorem kV_E:∀ q,q ∈ 20 :: kV.E → q ≠ 125 ∧ q ≠ 3:=by
 have:∀ q,q ∈ 20 :: TS → q ≠ 125 ∧ q ≠ 3:=by decide
 exact this
structure Copyd (E:PE) (w W3 wr:World) (lo:Nat) (v20 vk:Value) (nss:List (List S50)) (i:Nat):Prop where
 le:i ≤ nss.length
 row:kV.R 95 wr w.heap.size (fun _=>True) vk (nss.take i)
 src:kV.R 20 wr lo (fun k=>k < W3.heap.size) v20 nss
 own:∀ b,vk.ownBlock = some b → b < lo ∨ W3.heap.size ≤ b
 grw:Below w.heap.size W3 wr
set_option maxHeartbeats 4000000 in
theorem parseList_at {E:PE} {l:List S24} {bad:Bool} (C:Ctx E l bad) (g:Nat → Option (List S50 × Nat)) (hg:PGoes g) (W1 w:World) {i:Nat} {t:S24} (pe:Int) (h:Pk E W1 w t pe) (hat:At E.s l bad i t) (hk:t.f0 = 10)
  (HV:∀ (W:World) (j:Nat) (t':S24) (pe':Int),Pk E W1 W t' pe' → At E.s l bad j t' → i < j → Calls Tryz.prog 83 #[ptr E.P,.bool false] W fun e w'=>ValP E W1 l bad W.heap.size (g j) e w' ∧ Adv E W w') :
  Calls Tryz.prog 123 #[ptr E.P,.bool false] w fun e w'=>PtrP E W1 l bad w.heap.size 156 (match pround 11 g l bad i with | none=>none | some r=>some (made (nd 17 ⟨#[]⟩) r.1,r.2)) e w' ∧ Adv E w w':=by
 have HX:=Aside0.mk (fun W (hb:Below w.heap.size w W)=>reverse_any C kV rfl kV_E 154 (.inl rfl) g hg 10 11 (by decide) (by decide) false W1 W pe (h.keep hb) hat hk (fun W' j t' pe' hp ha hlt=>valueValue_at W1 W' (i:=j) (g j) (HV W' j t' pe' hp ha hlt)))
 have c6:=(blk_cell h.parser 6).trans rfl
 have HP0:E.P < w.heap.size:=blk_lt h.parser
 have HP1:E.pb < w.heap.size:=blk_lt h.place
 have HP2:E.sb < w.heap.size:=blk_lt h.source
 have HP3:W1.heap.size ≤ w.heap.size:=h.below.size
 obtain ⟨RR,hRR⟩:∃ RR,RR = pround 11 g l bad i:=⟨_,rfl⟩
 rw [← hRR] at HX
 obtain ⟨R2,hR2⟩:∃ R2,R2 = (match RR with | none=>none | some r=>some (made (nd 17 ⟨#[]⟩) r.1,r.2):Option (List S50 × Nat)):=⟨_,rfl⟩
 have hR2':(match pround 11 g l bad i with | none=>none | some r=>some (made (nd 17 ⟨#[]⟩) r.1,r.2):Option (List S50 × Nat)) = R2:=by rw [hR2,hRR]
 rw [hR2']
 have HR2:=Aside0.mk hR2
 have hmany:∀ r,RR = some r → r.1.length ≤ 2000:=fun r e=>Nat.le_trans (pround_len (by decide) hg (hRR.symm.trans e)) C.ll
 have HMANY:=Aside0.mk hmany
 clear h hat C HV hg hRR hR2 hR2' hmany
 obtain ⟨t0,t1,t2,t3⟩:=t
 obtain rfl:t0 = 10:=hk
 go_enter Tryz.func123,Tryz.ntmps123
 go_wp2_with fail
 obtain ⟨Wv,hWv⟩:∃ Wv,Wv = w.alloc (.cells #[] 95):=⟨_,rfl⟩
 have hEv:Wv.heap[w.heap.size]? = some (.cells #[] 95 (0,0)):=by rw [hWv];exact blk_new _ _
 have hBv:Below w.heap.size w Wv:=by rw [hWv];exact below_alloc (Below.refl _ _) _
 have hSv:Wv.heap.size = w.heap.size + 1:=by rw [hWv];simp
 rw [← hWv]
 clear hWv c6
 have HEv:=Aside0.mk hEv
 have HBv:=Aside0.mk hBv
 clear hEv hBv
 refine (HX.out Wv HBv.out).mono ?_
 rintro e w3 ⟨h3,ad3⟩
 have HA3:=Aside0.mk ((Adv.of_below HBv.out).trans ad3)
 have HE3:Aside0 (w3.heap[w.heap.size]? = some (.cells #[] 95 (0,0))):=⟨(ad3.block w.heap.size (blk_lt HEv.out) (by omega) (by omega)).trans HEv.out⟩
 have hz3:Wv.heap.size ≤ w3.heap.size:=ad3.size
 clear ad3
 cases RR with
 | none=>
  obtain ⟨v,q,rfl⟩:=h3
  go_wp2_with fail
  go_ret2
  exact ⟨by rw [HR2.out];exact ⟨q,rfl⟩,HA3.out⟩
 | some r=>
  obtain ⟨nss,j2⟩:=r
  rcases h3 with ⟨⟨hf,-⟩,-⟩ | ⟨-,v20,t',pe',rfl,hR,hat',hp⟩
  ·cases hf
  have hnl:nss.length ≤ 2000:=HMANY.out _ rfl
  have HAT:=Aside0.mk hat'
  have HP:=Aside0.mk hp
  have hC0:Copyd E w w3 w3 Wv.heap.size v20 (.slice (some ⟨w.heap.size,0,none⟩) 0 0) nss 0:=
   ⟨Nat.zero_le _,R_empty kV HE3.out (Nat.le_refl _),Kd.R_mono (Kd.R_bound hR) (fun k hk=>hk.2.2.1),fun b hb=>.inl (by simp [Value.ownBlock] at hb;omega),Below.refl _ _⟩
  have HC0:=Aside0.mk hC0
  obtain ⟨A20,c20,hv20,-,-⟩:=Kd.R_reads hR
  clear hR hat' hp hC0
  subst hv20
  go_wp2_with fail
  go_loopw [8,31] (fun v8 v31 wr=>∃ (vk:Value) (k:Nat),vk = v8 ∧ v31 = .int .i64 k ∧ Aside0 (Copyd E w w3 wr Wv.heap.size (.slice A20 nss.length c20) vk nss k)) (fun _ v31 _=>nss.length - (intOf v31).toNat)
  case atStart=>exact ⟨_,0,rfl,rfl,HC0⟩
  case round=>
   clear HC0
   obtain ⟨vk,k,rfl,rfl,HA⟩:=hrel
   have hle:=HA.out.le
   obtain ⟨Ak,ck',hvk,-,-⟩:=Kd.R_reads HA.out.row
   by_cases hlt:k < nss.length
   ·obtain ⟨ad,c,u,he,hcell,hM⟩:=R_get HA.out.src rfl k hlt
    obtain ⟨I,p,hu,hrep⟩:=hM
    obtain rfl:u = .iface I (ptr p):=by injection hu
    obtain ⟨rfl,-,-⟩:A20 = some ad ∧ True ∧ True:=by injection he with h1;exact ⟨h1,trivial,trivial⟩
    have hta:=assert95 hrep.itype (ptr p)
    have hzr:w3.heap.size ≤ wr.heap.size:=HA.out.grw.size
    have hb:w.heap.size ≤ wr.heap.size:=by omega
    have hown:=HA.out.own
    have HMM:Aside0 (kV.M wr w.heap.size (fun k=>True ∧ some k ≠ vk.ownBlock) nss[k] [.iface I (ptr p)]):=⟨⟨I,p,rfl,hrep.step (Mv.mono fun q hq=>⟨⟨trivial,fun e=>by
     have h1:=hq.1.1
     have h2:=hq.2
     rcases hown q e.symm with h3 | h3 <;> omega⟩,by have h2:=hq.2;omega⟩)⟩⟩
    have hl16:((nss.take k).length + 1) * 16 ≤ 140737488355328:=by rw [List.length_take];omega
    have hcl:(nss.take k).length = k:=by rw [List.length_take];omega
    have hin:(k:Int) < (nss.length:Int):=by omega
    have HTK:Aside0 (nss.take (k + 1) = nss.take k ++ [nss[k]]):=⟨List.take_succ_eq_append_getElem hlt⟩
    obtain ⟨xk,hxk⟩:∃ xk,xk = nss[k]:=⟨_,rfl⟩
    rw [← hxk] at HMM HTK
    subst hvk
    clear hu he hrep hxk
    go_wp2_with (at_builtin;refine Kd.R_append kV (w0:=wr) w.heap.size rfl (.tmp 35) (.tmp 38) 157 95 .nilIface 16 rfl Tryz.underlying157 info95 rfl (by decide) (by decide) _ (nss.take k) xk [.iface I (ptr p)] (fun _=>True) _ rfl rfl HMM.out (fun _ hk=>hk) (fun _ _=>trivial) HA.out.row (Below.refl _ _) hb hl16 ?_;intro v6 w6 hR6 hB6 hg6 hat6;have HN:Aside0 (Copyd E w w3 w6 Wv.heap.size (.slice (some ad) nss.length c20) v6 nss (k + 1)):=⟨⟨hlt,by rw [HTK.out];exact hR6,Kd.R_mono (Kd.R_step (Kd.R_bound HA.out.src) (fun q hq hl=>hg6.block q hl (fun e=>by rcases hown q e.symm with h3 | h3 <;> have:=hq.1 <;> have:=hq.2.1 <;> omega))) (fun q hq=>hq.1),fun b hb2=>by (rcases hat6 with e | ⟨b',e,hle2⟩;exact hown b (e ▸ hb2);rw [e] at hb2;injection hb2 with hb2;exact .inr (by omega)),HA.out.grw.trans hB6⟩⟩;clear hR6 hB6 hg6 hat6)
    go_roundw
    case rel=>exact ⟨_,k + 1,rfl,by go_num,HN⟩
    case measure=>simp [intOf];omega
   ·obtain rfl:k = nss.length:=by omega
    have hin:¬ ((nss.length:Int) < (nss.length:Int)):=by omega
    have HROW:=Aside0.mk HA.out.row
    have HP4:=Aside0.mk (HP.out.then_below HA.out.grw HP3 HP0 HP1 HP2)
    have HA4:=Aside0.mk (HA3.out.then_below HA.out.grw)
    rw [List.take_length] at HROW hvk
    subst hvk
    clear HA
    go_wp2_with fail
    refine (loc2_any E W1 wr t' pe' t2 HP4.out).mono ?_
    rintro e w4 ⟨⟨q4,rfl,hq,hq4⟩,hb4⟩
    have HQ4:=Aside0.mk (And.intro hq hq4)
    have HB4:=Aside0.mk hb4
    clear hq hq4 hb4
    go_wp2_with fail
    refine (newListV_any w4.heap.size q4 ⟨#[]⟩ _ _ _ _ (blk_new _ _)).mono ?_
    rintro e w5 ⟨⟨r5,k5,rfl,hr5,hc5⟩,hb5⟩
    have hb45:Below w4.heap.size w4 w5:=(below_alloc (Below.refl _ _) _).trans (hb5.mono (by simp))
    have HB45:=Aside0.mk hb45
    have HR5:=Aside0.mk (And.intro hr5 hc5)
    clear hr5 hc5 hb5 hb45
    go_wp2_with fail
    go_ret2
    have hz4:wr.heap.size ≤ w4.heap.size:=HB4.out.size
    have hb25:Below wr.heap.size wr w5:=HB4.out.trans (HB45.out.mono hz4)
    have hq:=HQ4.out.1
    have hr:=HR5.out.1
    have hzr:w.heap.size ≤ wr.heap.size:=HA4.out.size
    simp at hr
    refine ⟨?_,HA4.out.trans (Adv.of_below hb25)⟩
    rw [HR2.out]
    exact ⟨_,t',pe',rfl,RepV.mkList (Kd.R_below HROW.out hb25) (fun q _ hq=>hq) (by show w.heap.size ≤ _;omega) HR5.out.2 (by show w.heap.size ≤ _;omega) (HQ4.out.2.below HB45.out),HAT.out,HP4.out.keep hb25⟩
def FieldP (E:PE) (W1:World) (l:List S24) (bad:Bool) (lo:Nat) (o:Option (List S50 × Nat)) (e:Ending) (w':World):Prop:=
 match o with
 | none=>∃ q,e = .returned (.tuple #[.pointer none,.iface 182 (ptr q)])
 | some r=>∃ p v n ns t' pe',e = .returned (.tuple #[ptr p,.nilIface]) ∧ r.1 = made (nd 19 n) [ns] ∧ FieldAt w' (fun k=>lo ≤ k) p n v ∧ RepV w' (fun k=>lo ≤ k) ns v.1 v.2 ∧ At E.s l bad r.2 t' ∧ Pk E W1 w' t' pe'
def fstep1 (q:Int) (n:ByteArray) (o:Option (List S50 × Nat)):Option (List S50 × Nat):=match o with
 | none=>none
 | some r=>some (made (nd q n) [r.1],r.2)
def fstep (g:Nat → Option (List S50 × Nat)) (q:Int) (n:ByteArray) (o:Option Nat):Option (List S50 × Nat):=match o with
 | none=>none
 | some m=>fstep1 q n (g m)
theorem pfield_no {q:Int} {g:Nat → Option (List S50 × Nat)} {l:List S24} {bad:Bool} {i:Nat} (h:(if kd l i = 15 then pnext l bad i else none) = none):pfield q g l bad i = none:=by
 unfold pfield
 split at h
 ·rename_i h15;rw [if_pos h15,h]
 ·rename_i h15;rw [if_neg h15]
theorem pfield_yes {q:Int} {g:Nat → Option (List S50 × Nat)} {l:List S24} {bad:Bool} {i j:Nat} (h:(if kd l i = 15 then pnext l bad i else none) = some j):pfield q g l bad i = fstep g q (rd_T24 l i).f1 (if kd l j = 7 then pnext l bad j else none) ∧ kd l i = 15 ∧ i < j:=by
 split at h
 ·rename_i h15
  refine ⟨?_,h15,by have:=(pnext_some h).1;omega⟩
  unfold pfield
  rw [if_pos h15,h]
  dsimp only
  by_cases h7:kd l (j:Int) = 7
  ·rw [if_pos h7,if_pos h7]
   cases pnext l bad j with
   | none=>rfl
   | some m=>rfl
  ·rw [if_neg h7,if_neg h7];rfl
 ·cases h
set_option maxHeartbeats 4000000 in
theorem parseField_at {E:PE} {l:List S24} {bad:Bool} (C:Ctx E l bad) (g:Nat → Option (List S50 × Nat)) (W1 w:World) {i:Nat} {t:S24} (pe:Int) (h:Pk E W1 w t pe) (hat:At E.s l bad i t)
  (HV:∀ (W:World) (j:Nat) (t':S24) (pe':Int),Pk E W1 W t' pe' → At E.s l bad j t' → i < j → Calls Tryz.prog 83 #[ptr E.P,.bool false] W fun e w'=>ValP E W1 l bad W.heap.size (g j) e w' ∧ Adv E W w') :
  Calls Tryz.prog 158 #[ptr E.P,.bool false] w fun e w'=>FieldP E W1 l bad w.heap.size (pfield 19 g l bad i) e w' ∧ Adv E w w':=by
 have HN:=Aside0.mk (name_at C W1 w pe h hat)
 have c6:=(blk_cell h.parser 6).trans rfl
 obtain ⟨RR,hRR⟩:∃ RR,RR = pfield 19 g l bad i:=⟨_,rfl⟩
 rw [← hRR]
 have HRD:Aside0 (kd l i = 15 → rd_T24 l i = t):=⟨fun e=>hat.rd (kd_in (by rw [e];decide))⟩
 have HEX:=Aside0.mk (fun W j t' pe' (hp:Pk E W1 W t' pe') (ha:At E.s l bad j t')=>expect_at C W1 W pe' 7 hp ha (by decide))
 have HVV:=Aside0.mk HV
 obtain ⟨o,ho⟩:∃ o,o = (if kd l i = 15 then pnext l bad i else none):=⟨_,rfl⟩
 rw [← ho] at HN
 have HRR:=Aside0.mk (And.intro hRR ho)
 clear h hat C HV hRR ho
 obtain ⟨t0,t1,t2,t3⟩:=t
 go_enter Tryz.func158,Tryz.ntmps158
 go_wp2_with fail
 refine HN.out.mono ?_
 rintro e w2 ⟨h2,ad2⟩
 have HA2:=Aside0.mk ad2
 have hz2:w.heap.size ≤ w2.heap.size:=ad2.size
 clear ad2
 cases o with
 | none=>
  obtain ⟨q,rfl⟩:=h2
  go_wp2_with fail
  go_ret2
  exact ⟨by rw [HRR.out.1,pfield_no HRR.out.2.symm];exact ⟨q,rfl⟩,HA2.out⟩
 | some j=>
  obtain ⟨⟨rn,rfl,hrn,hnm⟩,t',hat',hp⟩:=h2
  obtain ⟨hpf,hk15,hij⟩:=pfield_yes (q:=19) (g:=g) HRR.out.2.symm
  have hE:=HEX.out w2 j t' t3 hp hat'
  obtain ⟨o2,ho2⟩:∃ o2,o2 = (if kd l (j:Int) = 7 then pnext l bad j else none):=⟨_,rfl⟩
  rw [← ho2] at hE hpf
  have hjo:∀ m,o2 = some m → j < m:=fun m e=>by
   rw [e] at ho2
   split at ho2
   ·have:=(pnext_some ho2.symm).1;omega
   ·cases ho2
  have hrd:(rd_T24 l i).f1 = t1:=by rw [HRD.out hk15]
  rw [hrd] at hpf
  have HE:=Aside0.mk hE
  have HF:=Aside0.mk (HRR.out.1.trans hpf)
  have HNM:=Aside0.mk (And.intro hrn hnm)
  have HPP:=Aside0.mk hp
  have HJO:=Aside0.mk hjo
  clear hrn hnm hat' hp hpf hk15 hE ho2 hrd hjo HRR HRD
  go_wp2_with fail
  refine HE.out.mono ?_
  rintro e w3 ⟨h3,ad3⟩
  have HA3:=Aside0.mk (HA2.out.trans ad3)
  have hz3:w2.heap.size ≤ w3.heap.size:=ad3.size
  have hnm3:NameAt w3 rn t1:=by
   obtain ⟨k,u,hh⟩:=HNM.out.2
   exact ⟨k,u,ad3.typed HPP.out hh (by decide) (by decide)⟩
  have HNM3:=Aside0.mk hnm3
  clear ad3 hnm3
  cases o2 with
  | none=>
   obtain ⟨q,rfl⟩:=h3
   go_wp2_with fail
   go_ret2
   exact ⟨by rw [HF.out];exact ⟨q,rfl⟩,HA3.out⟩
  | some m=>
   obtain ⟨rfl,t'',hat2,hp2⟩:=h3
   have hjm:=HJO.out m rfl
   have HVC:=Aside0.mk (HVV.out w3 m t'' t'.f3 hp2 hat2 (by omega))
   obtain ⟨gm,hgm⟩:∃ gm,gm = g m:=⟨_,rfl⟩
   rw [← hgm] at HVC
   have HF2:Aside0 (RR = fstep1 19 t1 gm):=⟨by rw [HF.out,hgm];rfl⟩
   have HP2:=Aside0.mk hp2
   clear hat2 hp2 hgm
   go_wp2_with fail
   refine HVC.out.mono ?_
   rintro e w4 ⟨h4,ad4⟩
   have HA4:=Aside0.mk (HA3.out.trans ad4)
   have hz4:w3.heap.size ≤ w4.heap.size:=ad4.size
   have HNM4:Aside0 (NameAt w4 rn t1):=⟨by
    obtain ⟨k,u,hh⟩:=HNM3.out
    exact ⟨k,u,ad4.typed HP2.out hh (by decide) (by decide)⟩⟩
   clear ad4
   cases gm with
   | none=>
    obtain ⟨v,q,rfl,hv⟩:=h4
    have HF3:Aside0 (RR = none):=⟨HF2.out⟩
    rcases hv with rfl | ⟨T,rfl⟩
    all_goals
     go_wp2_with fail
     go_ret2
     exact ⟨by rw [HF3.out];exact ⟨q,rfl⟩,HA4.out⟩
   | some r=>
    obtain ⟨I,p,tr,pr,rfl,hrep,hatr,hpr⟩:=h4
    have HREP:=Aside0.mk hrep
    have HATR:=Aside0.mk hatr
    have HPR:=Aside0.mk hpr
    have HF3:Aside0 (RR = some (made (nd 19 t1) [r.1],r.2)):=⟨HF2.out⟩
    clear hrep hatr hpr
    go_wp2_with fail
    refine (loc2_any E W1 w4 tr pr t2 HPR.out).mono ?_
    rintro e w5 ⟨⟨q5,rfl,hq,hq5⟩,hb5⟩
    have HQ5:=Aside0.mk (And.intro hq hq5)
    have HB5:=Aside0.mk hb5
    clear hq hq5 hb5
    go_wp2_with fail
    refine (newField_any w5.heap.size rn q5 I p ⟨#[]⟩ _ (blk_new _ _)).mono ?_
    rintro e w6 ⟨⟨r6,k6,rfl,hr6,hc6⟩,hb6⟩
    have HB56:Aside0 (Below w5.heap.size w5 w6):=⟨(below_alloc (Below.refl _ _) _).trans (hb6.mono (by simp))⟩
    have HR6:=Aside0.mk (And.intro hr6 hc6)
    clear hr6 hc6 hb6
    go_wp2_with fail
    go_ret2
    have hz5:w4.heap.size ≤ w5.heap.size:=HB5.out.size
    have hb46:Below w4.heap.size w4 w6:=HB5.out.trans (HB56.out.mono hz5)
    have hq:=HQ5.out.1
    have hr:=HR6.out.1
    have hn:=HNM.out.1
    simp at hr
    refine ⟨?_,HA4.out.trans (Adv.of_below hb46)⟩
    rw [HF3.out]
    exact ⟨r6,(I,p),t1,r.1,tr,pr,rfl,rfl,⟨by show w.heap.size ≤ _;omega,k6,rn,q5,HR6.out.2,⟨by show w.heap.size ≤ _;omega,HNM4.out.below hb46⟩,by show w.heap.size ≤ _;omega,HQ5.out.2.below HB56.out⟩,HREP.out.step (Mv.of_heap fun k hk hl=>⟨by show w.heap.size ≤ _;have hk:w3.heap.size ≤ k:=hk;omega,hb46.block k hl⟩),HATR.out,HPR.out.keep hb46⟩
theorem info164:(Tryz.prog.info? 164).map (fun i=>(i.zero,i.size,i.bytes)) = some (some (.pointer none),1,8):=by kernel_rfl
theorem kF_E:∀ q,q ∈ 164 :: kF.E → q ≠ 125 ∧ q ≠ 3:=by
 have:∀ q,q ∈ 164 :: TS → q ≠ 125 ∧ q ≠ 3:=by decide
 exact this
def fnodes (q:Int) (fs:List (ByteArray × List S50)):List (List S50):=fs.map fun f=>made (nd q f.1) [f.2]
theorem fnodes_snoc (q:Int) (fs:List (ByteArray × List S50)) (n:ByteArray) (ns:List S50):fnodes q (fs ++ [(n,ns)]) = fnodes q fs ++ [made (nd q n) [ns]]:=by unfold fnodes;rw [List.map_append];rfl
set_option maxRecDepth 8000 in
set_option maxHeartbeats 4000000 in
theorem parseObject_at {E:PE} {l:List S24} {bad:Bool} (C:Ctx E l bad) (g:Nat → Option (List S50 × Nat)) (hg:PGoes g) (W1 w:World) {i:Nat} {t:S24} (pe:Int) (h:Pk E W1 w t pe) (hat:At E.s l bad i t) (hk:t.f0 = 12)
  (HV:∀ (W:World) (j:Nat) (t':S24) (pe':Int),Pk E W1 W t' pe' → At E.s l bad j t' → i < j → Calls Tryz.prog 83 #[ptr E.P,.bool false] W fun e w'=>ValP E W1 l bad W.heap.size (g j) e w' ∧ Adv E W w') :
  Calls Tryz.prog 124 #[ptr E.P,.bool false] w fun e w'=>PtrP E W1 l bad w.heap.size 160 (match pround 14 (pfield 19 g l bad) l bad i with | none=>none | some r=>some (made (nd 18 ⟨#[]⟩) r.1,r.2)) e w' ∧ Adv E w w':=by
 have hx:=expect_at C W1 w pe 12 h hat (by decide)
 rw [hat.kd,if_pos hk] at hx
 have HX:=Aside0.mk hx
 have hgf:=pfield_goes (q:=19) (l:=l) (bad:=bad) hg
 have HIT:=Aside0.mk (fun (W:World) (j:Nat) (t':S24) (pe':Int) (hp:Pk E W1 W t' pe') (ha:At E.s l bad j t') (hlt:i < j)=>parseField_at C g W1 W pe' hp ha (fun W' j' t2 pe2 hp2 ha2 hlt2=>HV W' j' t2 pe2 hp2 ha2 (by omega)))
 have c6:=(blk_cell h.parser 6).trans rfl
 have hll:=C.ll
 have HC:=Aside0.mk C
 have HP0:E.P < w.heap.size:=blk_lt h.parser
 have HP1:E.pb < w.heap.size:=blk_lt h.place
 have HP2:E.sb < w.heap.size:=blk_lt h.source
 have HP3:W1.heap.size ≤ w.heap.size:=h.below.size
 obtain ⟨o,ho⟩:∃ o,o = pnext l bad i:=⟨_,rfl⟩
 obtain ⟨RR,hRR⟩:∃ RR,RR = pround 14 (pfield 19 g l bad) l bad i:=⟨_,rfl⟩
 have hRE:RR = prest 14 (pfield 19 g l bad) l bad o:=by rw [hRR,ho];rfl
 have hoi:∀ j,o = some j → j = i + 1:=fun j e=>(pnext_some (ho.symm.trans e)).1
 obtain ⟨R2,hR2⟩:∃ R2,R2 = (match RR with | none=>none | some r=>some (made (nd 18 ⟨#[]⟩) r.1,r.2):Option (List S50 × Nat)):=⟨_,rfl⟩
 have hR2':(match pround 14 (pfield 19 g l bad) l bad i with | none=>none | some r=>some (made (nd 18 ⟨#[]⟩) r.1,r.2):Option (List S50 × Nat)) = R2:=by rw [hR2,hRR]
 rw [← ho] at HX
 rw [hR2']
 have HRE:=Aside0.mk hRE
 have HR2:Aside0 ((RR = none → R2 = none) ∧ ∀ r,RR = some r → R2 = some (made (nd 18 ⟨#[]⟩) r.1,r.2)):=⟨fun e=>by rw [hR2,e],fun r e=>by rw [hR2,e]⟩
 have HOI:=Aside0.mk hoi
 have HG:=Aside0.mk hgf
 clear h hat hx HV C hRR hRE ho hoi hg hgf hR2 hR2'
 obtain ⟨t0,t1,t2,t3⟩:=t
 obtain rfl:t0 = 12:=hk
 go_enter Tryz.func124,Tryz.ntmps124
 go_wp2_with fail
 refine HX.out.mono ?_
 rintro e w2 ⟨h2,ad2⟩
 have HA2:=Aside0.mk ad2
 have hz2:w.heap.size ≤ w2.heap.size:=ad2.size
 clear ad2
 cases o with
 | none=>
  obtain ⟨q,rfl⟩:=h2
  go_wp2_with fail
  go_ret2
  exact ⟨by rw [HR2.out.1 HRE.out];exact ⟨q,rfl⟩,HA2.out.trans (Adv.of_below (below_alloc (Below.refl _ _) _))⟩
 | some j0=>
  obtain rfl:=HOI.out j0 rfl
  obtain ⟨rfl,t',hat',hp⟩:=h2
  have HP:=Aside0.mk hp
  have HAT:=Aside0.mk hat'
  clear hp hat'
  go_wp2_with fail
  obtain ⟨W2,hW2⟩:∃ W2,W2 = (w2.alloc (.cells #[.int .i64 12,.int .i64 t2,.int .i64 t3,.string t1] 58)).alloc (.cells #[] 164):=⟨_,rfl⟩
  have hE2:W2.heap[w2.heap.size + 1]? = some (.cells #[] 164 (0,0)):=by rw [hW2];exact blk_new2 _ _ _
  have hB:Below w2.heap.size w2 W2:=by rw [hW2];exact below_alloc (below_alloc (Below.refl _ _) _) _
  rw [← hW2]
  clear hW2
  have hl0:l.length < (i + 1) + (l.length + 1):=by omega
  have HL0:Aside0 (PLoop E W1 l bad 14 (pfield 19 g l bad) RR w W2 i (l.length + 1) (i + 1) (fnodes 19 []) t' t3):=⟨⟨HRE.out.symm,hl0,Nat.lt_succ_self _,Nat.zero_le _,HAT.out,HP.out.keep hB,HA2.out.trans (Adv.of_below hB)⟩⟩
  have HK0:=Aside0.mk (R_empty kF (base:=w.heap.size) hE2 (by omega))
  clear hE2 hB
  go_loopw [9] (fun v9 wr=>∃ (vk:Value) (k j:Nat) (fs:List (ByteArray × List S50)) (t':S24) (pe':Int),vk = v9 ∧ Aside0 (PLoop E W1 l bad 14 (pfield 19 g l bad) RR w wr i k j (fnodes 19 fs) t' pe' ∧ kF.R 164 wr w.heap.size (fun _=>True) vk fs)) (fun v9 _=>4000 - lenS v9)
  case atStart=>exact ⟨_,_,_,_,_,_,rfl,⟨HL0.out,HK0.out⟩⟩
  case round=>
   clear HL0 HK0
   obtain ⟨vk,k,j,fs,tj,pj,rfl,HA⟩:=hrel
   have hmany:fs.length ≤ 2000:=by have:=HA.out.1.many;have:=HA.out.1.hat.le;unfold fnodes at *;rw [List.length_map] at *;omega
   obtain ⟨Ak,ck',hvk,-,-⟩:=Kd.R_reads HA.out.2
   by_cases hc:tj.f0 = 14
   ·have hs:=skip_at HC.out W1 wr pj HA.out.1.pk HA.out.1.hat (by rw [hc];decide)
    rw [hc] at hs
    have hRR2:=HA.out.1.out hc
    obtain ⟨o2,ho2⟩:∃ o2,o2 = pnext l bad j:=⟨_,rfl⟩
    rw [← ho2] at hs
    have HS:=Aside0.mk hs
    have HR3:Aside0 ((o2 = none → RR = none) ∧ ∀ j2,o2 = some j2 → RR = some (fnodes 19 fs,j2)):=⟨fun e=>by rw [hRR2,← ho2,e],fun j2 e=>by rw [hRR2,← ho2,e]⟩
    clear hs hRR2 ho2 hc
    go_wp2_with fail
    refine HS.out.mono ?_
    rintro e w3 ⟨h3,ad3⟩
    have HA3:=Aside0.mk (HA.out.1.adv.trans ad3)
    have HK3:=Aside0.mk (R_adv HA.out.2 HA.out.1.pk ad3 kF_E)
    clear ad3
    cases o2 with
    | none=>
     obtain ⟨q,rfl⟩:=h3
     go_wp2_with fail
     go_ret2
     exact ⟨by rw [HR2.out.1 (by first | exact HR3.out.1 rfl | exact HR3.out.1 trivial)];exact ⟨q,rfl⟩,HA3.out⟩
    | some j2=>
     obtain ⟨rfl,t2',hat2,hp2⟩:=h3
     have HAT2:=Aside0.mk hat2
     have HP2':=Aside0.mk hp2
     clear hat2 hp2
     subst hvk
     go_wp2_with fail
     refine (loc2_any E W1 w3 t2' _ t2 HP2'.out).mono ?_
     rintro e w4 ⟨⟨q4,rfl,hq,hq4⟩,hb4⟩
     have HQ4:=Aside0.mk (And.intro hq hq4)
     have HB4:=Aside0.mk hb4
     clear hq hq4 hb4
     go_wp2_with fail
     refine (newObjV_any w4.heap.size q4 ⟨#[]⟩ _ _ _ _ (blk_new _ _)).mono ?_
     rintro e w5 ⟨⟨r5,k5,rfl,hr5,hc5⟩,hb5⟩
     have hb45:Below w4.heap.size w4 w5:=(below_alloc (Below.refl _ _) _).trans (hb5.mono (by simp))
     have HB45:=Aside0.mk hb45
     have HR5:=Aside0.mk (And.intro hr5 hc5)
     clear hr5 hc5 hb5 hb45
     go_wp2_with fail
     go_ret2
     have hz4:w3.heap.size ≤ w4.heap.size:=HB4.out.size
     have hb25:Below w3.heap.size w3 w5:=HB4.out.trans (HB45.out.mono hz4)
     have hq:=HQ4.out.1
     have hr:=HR5.out.1
     have hzr:w.heap.size ≤ w3.heap.size:=HA3.out.size
     simp at hr
     refine ⟨?_,HA3.out.trans (Adv.of_below hb25)⟩
     rw [HR2.out.2 _ (HR3.out.2 j2 rfl)]
     exact ⟨_,t2',_,rfl,RepV.mkObj (Kd.R_below HK3.out hb25) (fun q _ hq=>hq) (by show w.heap.size ≤ _;omega) HR5.out.2 (by show w.heap.size ≤ _;omega) (HQ4.out.2.below HB45.out),HAT2.out,HP2'.out.keep hb25⟩
   ·have HSN:=Aside0.mk (skip_no E W1 wr tj pj 14 HA.out.1.pk hc)
    have HI2:=Aside0.mk (HIT.out wr j tj pj HA.out.1.pk HA.out.1.hat HA.out.1.ij)
    obtain ⟨gj,hgj⟩:∃ gj,gj = pfield 19 g l bad j:=⟨_,rfl⟩
    rw [← hgj] at HI2
    have HGJ:=Aside0.mk (And.intro hc hgj.symm)
    clear hc hgj
    go_wp2_with fail
    refine HSN.out.mono ?_
    rintro e w3 ⟨rfl,rfl⟩
    go_wp2_with fail
    refine HI2.out.mono ?_
    rintro e w3 ⟨h3,ad3⟩
    have HA3:=Aside0.mk (HA.out.1.adv.trans ad3)
    have HK3:=Aside0.mk (R_adv HA.out.2 HA.out.1.pk ad3 kF_E)
    have hz3:=ad3.size
    clear ad3
    cases gj with
    | none=>
     obtain ⟨q,rfl⟩:=h3
     go_wp2_with fail
     go_ret2
     exact ⟨by rw [HR2.out.1 (HA.out.1.none HGJ.out.1 HGJ.out.2)];exact ⟨q,rfl⟩,HA3.out⟩
    | some r=>
     obtain ⟨p,v,n,ns,tr,pr,rfl,hrn,hf,hrep,hatr,hpr⟩:=h3
     have HPR:=Aside0.mk hpr
     have HATR:=Aside0.mk hatr
     have HRN:=Aside0.mk hrn
     have hb3:w.heap.size ≤ w3.heap.size:=HA3.out.size
     have hl8:(fs.length + 1) * 8 ≤ 140737488355328:=by omega
     have hlt:∀ b,vk.ownBlock = some b → b < wr.heap.size:=row_lt HA.out.2
     have hzr:w.heap.size ≤ wr.heap.size:=HA.out.1.adv.size
     have hmv:Mv w3 w3 (fun k=>wr.heap.size ≤ k) (fun k=>(True ∧ some k ≠ vk.ownBlock) ∧ w.heap.size ≤ k):=Mv.mono fun k hk=>⟨⟨trivial,fun e=>by have:=hlt k e.symm;omega⟩,by omega⟩
     have HMM:Aside0 (kF.M w3 w.heap.size (fun k=>True ∧ some k ≠ vk.ownBlock) (n,ns) [ptr p]):=⟨⟨p,v,rfl,hmv.field hf,hrep.step hmv⟩⟩
     subst hvk
     clear hf hrep hatr hpr hrn hmv
     go_wp2_with (at_builtin;refine Kd.R_append kF (w0:=w3) w.heap.size rfl (.tmp 46) (.tmp 48) 161 164 (.pointer none) 8 rfl Tryz.underlying161 info164 rfl (by decide) (by decide) _ fs (n,ns) [ptr p] (fun _=>True) _ rfl rfl HMM.out (fun _ hk=>hk) (fun _ _=>trivial) HK3.out (Below.refl _ _) hb3 hl8 ?_;intro v6 w6 hR6 hB6 hg6 hat6;have HN:Aside0 (PLoop E W1 l bad 14 (pfield 19 g l bad) RR w w6 i (k - 1) r.2 (fnodes 19 (fs ++ [(n,ns)])) tr pr):=⟨by rw [fnodes_snoc,← HRN.out];exact HA.out.1.more HGJ.out.1 HGJ.out.2 HG.out HATR.out (HPR.out.then_below hB6 HP3 HP0 HP1 HP2) (HA3.out.then_below hB6)⟩;have HR6:=Aside0.mk hR6;clear hR6 hB6 hg6 hat6)
     have hl6:lenS v6 = fs.length + 1:=by obtain ⟨A,c,he⟩:=Kd.R_slice HR6.out;rw [he];simp [lenS]
     go_roundw
     case rel=>first | exact ⟨_,_,_,_,_,_,rfl,⟨HN.out,HR6.out⟩⟩ | exact ⟨_,_,_,_,_,⟨HN.out,HR6.out⟩⟩
     case measure=>first | omega | (rw [hl6];simp [lenS];omega)
theorem pval_10 {l:List S24} {bad:Bool} {n i:Nat} (h:kd l i = 10):pval l bad (n + 1) i = (match pround 11 (pval l bad n) l bad i with | none=>none | some r=>some (made (nd 17 ⟨#[]⟩) r.1,r.2)):=by
 rw [pval,if_pos h]
 unfold pround
 cases pnext l bad i with
 | none=>rfl
 | some j=>rfl
theorem pval_12 {l:List S24} {bad:Bool} {n i:Nat} (h:kd l i = 12):pval l bad (n + 1) i = (match pround 14 (pfield 19 (pval l bad n) l bad) l bad i with | none=>none | some r=>some (made (nd 18 ⟨#[]⟩) r.1,r.2)):=by
 rw [pval,if_neg (by rw [h];decide),if_pos h]
 unfold pround
 cases pnext l bad i with
 | none=>rfl
 | some j=>rfl
set_option maxHeartbeats 1000000 in
theorem lit_handed {E:PE} {l:List S24} {bad:Bool} (W1 w:World) {i:Nat} {t:S24} (pe:Int) (h:Pk E W1 w t pe) (R:Option (List S50 × Nat)) (F I:Nat) (hF:(t.f0 = 10 ∧ F = 123 ∧ I = 156) ∨ (t.f0 = 12 ∧ F = 124 ∧ I = 160))
  (HX:∀ W,Below w.heap.size w W → Calls Tryz.prog F #[ptr E.P,.bool false] W fun e w'=>PtrP E W1 l bad W.heap.size I R e w' ∧ Adv E W w') :
  Calls Tryz.prog 83 #[ptr E.P,.bool false] w fun e w'=>ValP E W1 l bad w.heap.size R e w' ∧ Adv E w w':=by
 have c5:=(blk_cell h.parser 5).trans rfl
 have c6:=(blk_cell h.parser 6).trans rfl
 have c7:=(blk_cell h.parser 7).trans rfl
 have c8:=(blk_cell h.parser 8).trans rfl
 have HXX:=Aside0.mk HX
 clear h HX
 obtain ⟨t0,t1,t2,t3⟩:=t
 rcases hF with ⟨ht,rfl,rfl⟩ | ⟨ht,rfl,rfl⟩
 all_goals
  dsimp only at ht
  subst ht
  go_enter Tryz.func83,Tryz.ntmps83
  go_wp2_with fail
  refine (HXX.out _ (below_alloc (Below.refl _ _) _)).mono ?_
  rintro e w2 ⟨h2,ad2⟩
  have HA2:=Aside0.mk ((Adv.of_below (below_alloc (Below.refl _ _) _)).trans ad2)
  clear ad2
  cases R with
  | none=>
   obtain ⟨q,rfl⟩:=h2
   go_wp2_with fail
   go_ret2
   exact ⟨⟨_,q,rfl,.inr ⟨_,rfl⟩⟩,HA2.out⟩
  | some r=>
   obtain ⟨p,t',pe',rfl,hr,ha,hp⟩:=h2
   have HF:=Aside0.mk (And.intro hr (And.intro ha hp))
   clear hr ha hp
   go_wp2_with fail
   go_ret2
   exact ⟨⟨_,p,t',pe',rfl,HF.out.1.step (Mv.mono fun k hk=>by show w.heap.size ≤ k;have hk:=hk;simp at hk;omega),HF.out.2.1,HF.out.2.2⟩,HA2.out⟩
theorem parseValue_at {E:PE} {l:List S24} {bad:Bool} (C:Ctx E l bad) (W1:World):∀ (n:Nat) (w:World) (i:Nat) (t:S24) (pe:Int),Pk E W1 w t pe → At E.s l bad i t → l.length < i + n →
  Calls Tryz.prog 83 #[ptr E.P,.bool false] w fun e w'=>ValP E W1 l bad w.heap.size (pval l bad n i) e w' ∧ Adv E w w'
 | 0,w,i,t,pe,h,hat,hn=>by have:=hat.le;omega
 | n + 1,w,i,t,pe,h,hat,hn=>by
  have hk:=hat.kd
  have hrd:t.f0 ≠ 1 → rd_T24 l i = t:=fun e=>hat.rd (hat.lt e)
  have IH:∀ (W:World) (j:Nat) (t':S24) (pe':Int),Pk E W1 W t' pe' → At E.s l bad j t' → i < j → Calls Tryz.prog 83 #[ptr E.P,.bool false] W fun e w'=>ValP E W1 l bad W.heap.size (pval l bad n j) e w' ∧ Adv E W w':=
   fun W j t' pe' hp ha hlt=>parseValue_at C W1 n W j t' pe' hp ha (by omega)
  by_cases h10:t.f0 = 10
  ·rw [pval_10 (hk.trans h10)]
   exact lit_handed W1 w (i:=i) pe h _ 123 156 (.inl ⟨h10,rfl,rfl⟩) (fun W hb=>parseList_at C (pval l bad n) (pval_goes l bad n) W1 W pe (h.keep hb) hat h10 IH)
  by_cases h12:t.f0 = 12
  ·rw [pval_12 (hk.trans h12)]
   exact lit_handed W1 w (i:=i) pe h _ 124 160 (.inr ⟨h12,rfl,rfl⟩) (fun W hb=>parseObject_at C (pval l bad n) (pval_goes l bad n) W1 W pe (h.keep hb) hat h12 IH)
  by_cases h16:t.f0 = 16
  ·rw [pval_16 (hk.trans h16),hrd (by rw [h16];decide)]
   exact lit_int C W1 w pe h hat h16
  by_cases h17:t.f0 = 17
  ·rw [pval_17 (hk.trans h17),hrd (by rw [h17];decide)]
   exact lit_float C W1 w pe h hat h17
  by_cases h18:t.f0 = 18
  ·rw [pval_18 (.inl (hk.trans h18)),hrd (by rw [h18];decide)]
   exact lit_text18 C W1 w pe h hat h18
  by_cases h19:t.f0 = 19
  ·rw [pval_18 (.inr (hk.trans h19)),hrd (by rw [h19];decide)]
   exact lit_text19 C W1 w pe h hat h19
  by_cases h15:t.f0 = 15
  ·rw [pval_15 (hk.trans h15),hrd (by rw [h15];decide)]
   by_cases hT:t.f1 = wTrue
   ·rw [if_pos hT]
    exact lit_yes C W1 w pe h hat h15 hT
   rw [if_neg hT]
   by_cases hF:t.f1 = wFalse
   ·rw [if_pos hF]
    exact lit_no C W1 w pe h hat h15 hF
   rw [if_neg hF]
   by_cases hN:t.f1 = wNull
   ·rw [if_pos hN]
    exact lit_null C W1 w pe h hat h15 hN
   rw [if_neg hN]
   exact lit_enum C W1 w pe h hat h15 hT hF hN
  by_cases h3:t.f0 = 3
  ·rw [pval_3 (hk.trans h3)]
   exact lit_var C W1 w pe h hat h3
  rw [pval_else (by rw [hk];exact h3) (by rw [hk];exact h10) (by rw [hk];exact h12) (by rw [hk];exact h15) (by rw [hk];exact h16) (by rw [hk];exact h17) (by rw [hk];exact fun e=>e.elim h18 h19)]
  exact lit_else C W1 w pe h hat h3 h10 h12 h15 h16 h17 h18 h19
set_option maxHeartbeats 2000000 in
theorem makeParser_any (s:ByteArray) (g b c K:Nat) (t:S24) (w:World) (hS:Src w b c s) (hg:w.cell? ⟨g,0,none⟩ = some (.slice (some ⟨b,0,none⟩) s.size c)) (hs:s.size ≤ 2000) (hK:(s.size:Int) < K) (hN:nxt s K 0 false = (some t,false)) :
  Calls Tryz.prog 82 #[.pointer (some ⟨g,0,none⟩),.agg #[.bool false,.bool false]] w fun e w'=>∃ P pb sb,e = .returned (.tuple #[.pointer (some ⟨P,0,none⟩),.nilIface]) ∧ Pk ⟨P,pb,sb,g,b,c,s⟩ w w' t 0:=by
 have HS:=Aside0.mk hS
 have HG:=Aside0.mk hg
 have HN:=Aside0.mk hN
 clear hS hg hN
 go_enter Tryz.func82,Tryz.ntmps82
 go_wp2_with fail
 obtain ⟨Wb,hWb⟩:∃ Wb,Wb = w.alloc (.cells #[.bool false,.bool false] 99):=⟨_,rfl⟩
 have hBb:Below w.heap.size w Wb:=by rw [hWb];exact below_alloc (Below.refl _ _) _
 have hEb:Wb.heap[w.heap.size]? = some (.cells #[.bool false,.bool false] 99 (0,0)):=by rw [hWb];exact blk_new _ _
 rw [← hWb]
 clear hWb
 have HBb:=Aside0.mk hBb
 have HEb:=Aside0.mk hEb
 clear hBb hEb
 refine (lexLex_any g Wb).mono ?_
 rintro e w2 ⟨rfl,hs2,hp2,hb2,hz2⟩
 have HB2:=Aside0.mk (HBb.out.trans (hb2.mono HBb.out.size))
 have HE2:=Aside0.mk (blk_below HEb.out hb2)
 have hsb:Wb.heap.size ≠ Wb.heap.size + 1:=by omega
 have hwb:w.heap.size < Wb.heap.size:=blk_lt HEb.out
 have HSB:=Aside0.mk hs2
 have HPB:=Aside0.mk hp2
 have HL:=Aside0.mk (lexer_any s g b c Wb.heap.size (Wb.heap.size + 1) K 0 0 0 (some t) w2 rfl (HS.out.below HB2.out) (PFnReadString.old_cell HB2.out HG.out) ((blk_cell hs2 0).trans rfl) hp2 hs (Int.le_refl _) (by omega) (by omega) HN.out)
 clear hs2 hp2 hb2 hz2
 go_wp2_with fail
 refine HL.out.mono ?_
 rintro e w3 ⟨he3,hm3⟩
 obtain ⟨t0,t1,t2,t3⟩:=t
 obtain rfl:e = .returned (.tuple #[tk t0 t2 t3 t1,.nilIface]):=he3
 have hm:Below w2.heap.size (w2.setCell ⟨Wb.heap.size + 1,0,none⟩ (.int .i64 t3)) w3:=hm3
 have hkeep:∀ k T cs,w2.heap[k]? = some (.cells cs T (0,0)) → k ≠ Wb.heap.size + 1 → w3.heap[k]? = some (.cells cs T (0,0)):=fun k T cs h1 h2=>((hm.block k (blk_lt h1)).trans (Below.heap_setCell w2 ⟨Wb.heap.size + 1,0,none⟩ _ k h2)).trans h1
 have hopt:=hkeep _ _ _ HE2.out (by omega)
 have o0:=(blk_cell hopt 0).trans rfl
 have o1:=(blk_cell hopt 1).trans rfl
 have HSB3:=Aside0.mk (hkeep _ _ _ HSB.out hsb)
 have HPB3:=Aside0.mk ((hm.block _ (blk_lt HPB.out)).trans (blk_set HPB.out 0 _))
 have HB3:Aside0 (Below w.heap.size w w3):=⟨(HB2.out.setCell (p:=⟨Wb.heap.size + 1,0,none⟩) (by show w.heap.size ≤ Wb.heap.size + 1;omega) _).trans (hm.mono HB2.out.size)⟩
 have hl3:=blk_lt hopt
 clear hm3 hm hkeep hopt
 go_wp2_with fail
 go_ret2
 have hB:Below w.heap.size w ((w3.alloc (.cells #[.int .i64 t0,.int .i64 t2,.int .i64 t3,.string t1] 58)).alloc (.cells #[.func (.func 67) #[] #[.pointer (some ⟨Wb.heap.size + 1,0,none⟩),.pointer (some ⟨Wb.heap.size,0,none⟩)],.pointer (some ⟨g,0,none⟩),.bool false,.bool false,.int .i64 0,.int .i64 t0,.int .i64 t2,.int .i64 t3,.string t1] 125)):=(HB3.out.alloc HB3.out.size _).alloc (by have:=HB3.out.size;simp;omega) _
 refine ⟨_,Wb.heap.size + 1,Wb.heap.size,rfl,⟨?_,blk_alloc (blk_alloc HPB3.out _) _,blk_alloc (blk_alloc HSB3.out _) _,hB,?_,?_,?_,HS.out,HG.out,hs⟩⟩
 ·exact blk_new2 _ _ _
 ·show w.heap.size ≤ w3.heap.size + 1;have:=HB3.out.size;omega
 ·show w.heap.size ≤ Wb.heap.size + 1;omega
 ·show w.heap.size ≤ Wb.heap.size;omega
set_option maxHeartbeats 1000000 in
theorem begin_any (s:ByteArray) (K:Nat) (t:S24) (w:World) (hT:Lib.Utf8Tabs 1 2 w) (hs:s.size ≤ 2000) (hK:(s.size:Int) < K) (hN:nxt s K 0 false = (some t,false)) :
  Calls Tryz.prog 73 #[.string s] w fun e w'=>∃ (E:PE) (W1:World),E.s = s ∧ e = .returned (.tuple #[.pointer (some ⟨E.P,0,none⟩),.nilIface]) ∧ Pk E W1 w' t 0 ∧ Below w.heap.size w w' ∧ w.heap.size ≤ W1.heap.size:=by
 have HT:=Aside0.mk hT
 have HN:=Aside0.mk hN
 clear hT hN
 have kb:=fun W=>print_bytes (P:=Tryz.prog) 9 74 5 Tryz.underlying9 Tryz.underlying74 Tryz.underlying5 s W
 go_enter Tryz.func73,Tryz.ntmps73
 go_wp2_with fail
 have hS:=src_bytes w s hs HT.out
 have hB0:Below w.heap.size w (Lib.bytesWorld w 5 s):=bytes_below (Below.refl w.heap.size w) (Nat.le_refl _) 5 s
 obtain ⟨W0,hW0⟩:∃ W0,W0 = Lib.bytesWorld w 5 s:=⟨_,rfl⟩
 rw [← hW0] at hS hB0 ⊢
 clear hW0
 have HB0:=Aside0.mk hB0
 obtain ⟨W1,hW1⟩:∃ W1,W1 = W0.alloc (.cells #[.slice (some ⟨w.heap.size,0,none⟩) s.size (grownCap w s.size 0 5),.string ⟨#[]⟩] 76):=⟨_,rfl⟩
 have hN1:W1.heap[W0.heap.size]? = some (.cells #[.slice (some ⟨w.heap.size,0,none⟩) s.size (grownCap w s.size 0 5),.string ⟨#[]⟩] 76 (0,0)):=by rw [hW1];exact blk_new _ _
 have hB1:Below W0.heap.size W0 W1:=by rw [hW1];exact below_alloc (Below.refl _ _) _
 rw [← hW1]
 clear hW1
 have HS0:=Aside0.mk hS
 have HB1:=Aside0.mk hB1
 clear hS hB0 hB1
 refine (newSource_any W0.heap.size _ W1 hN1).mono ?_
 rintro e w1 ⟨rfl,hc1,hb1,hz1⟩
 have hBw:Below W0.heap.size W0 w1:=HB1.out.trans hb1
 have HS1:=Aside0.mk (HS0.out.below hBw)
 have HBw:=Aside0.mk (HB0.out.trans (hBw.mono HB0.out.size))
 have HC1:=Aside0.mk hc1
 clear hc1 hb1 hz1 hBw hN1
 go_wp2_with fail
 refine (makeParser_any s W0.heap.size w.heap.size (grownCap w s.size 0 5) K t w1 HS1.out HC1.out hs hK HN.out).mono ?_
 rintro e w2 ⟨P,pb,sb,rfl,hp⟩
 have HP:=Aside0.mk hp
 clear hp
 go_wp2_with fail
 go_ret2
 exact ⟨⟨P,pb,sb,W0.heap.size,w.heap.size,grownCap w s.size 0 5,s⟩,w1,rfl,rfl,HP.out,HBw.out.trans (HP.out.below.mono HBw.out.size),HBw.out.size⟩
set_option maxHeartbeats 400000 in
theorem ntext_any (r:Nat) (n:ByteArray) (w:World) (h:NameAt w r n) :
  Calls Tryz.prog 84 #[.pointer (some ⟨r,0,none⟩)] w fun e w'=>e = .returned (.string n) ∧ w = w':=by
 obtain ⟨k,u,h⟩:=h
 have c2:=(blk_cell h 2).trans rfl
 clear h
 go_enter Tryz.func84,Tryz.ntmps84
 go_wp2_with fail
 go_ret
 exact ⟨rfl,rfl⟩
theorem run_assert_is {P:Program} {t e:TypeId} (hu:P.underlying t = some (.pointer e)) (v:Value) (xT:TypeId) (w:World):(Instr.typeAssert (.iface t v) xT t true).run P w = .ok (.tuple #[v,.bool true]) w:=by
 simp [Instr.typeAssert,run_underlying hu]
theorem run_assert_not {P:Program} {t t' e:TypeId} {z:Value} (hu:P.underlying t = some (.pointer e)) (hne:t' ≠ t) (hz:(P.info? t).map (·.zero) = some (some z)) (v:Value) (xT:TypeId) (w:World):(Instr.typeAssert (.iface t' v) xT t true).run P w = .ok (.tuple #[z,.bool false]) w:=by
 obtain ⟨i,hi,hzi⟩:=Option.map_eq_some_iff.1 hz
 simp [Instr.typeAssert,run_underlying hu,hne,zeroValue,typeInfo,hi,hzi]
set_option maxHeartbeats 2000000 in
theorem makeParser_no (s:ByteArray) (g b c K:Nat) (w:World) (hS:Src w b c s) (hg:w.cell? ⟨g,0,none⟩ = some (.slice (some ⟨b,0,none⟩) s.size c)) (hs:s.size ≤ 2000) (hK:(s.size:Int) < K) (hN:nxt s K 0 false = (none,false)) :
  Calls Tryz.prog 82 #[.pointer (some ⟨g,0,none⟩),.agg #[.bool false,.bool false]] w fun e w'=>(∃ P q,e = .returned (.tuple #[ptr P,.iface 182 (ptr q)]) ∧ ∃ a,w'.cell? ⟨P,6,none⟩ = some (.int .i64 a)) ∧ Below w.heap.size w w':=by
 have HS:=Aside0.mk hS
 have HG:=Aside0.mk hg
 have HN:=Aside0.mk hN
 clear hS hg hN
 go_enter Tryz.func82,Tryz.ntmps82
 go_wp2_with fail
 obtain ⟨Wb,hWb⟩:∃ Wb,Wb = w.alloc (.cells #[.bool false,.bool false] 99):=⟨_,rfl⟩
 have hBb:Below w.heap.size w Wb:=by rw [hWb];exact below_alloc (Below.refl _ _) _
 rw [← hWb]
 clear hWb
 have HBb:=Aside0.mk hBb
 clear hBb
 refine (lexLex_any g Wb).mono ?_
 rintro e w2 ⟨rfl,hs2,hp2,hb2,hz2⟩
 have HB2:=Aside0.mk (HBb.out.trans (hb2.mono HBb.out.size))
 have HL:=Aside0.mk (lexer_any s g b c Wb.heap.size (Wb.heap.size + 1) K 0 0 0 none w2 rfl (HS.out.below HB2.out) (PFnReadString.old_cell HB2.out HG.out) ((blk_cell hs2 0).trans rfl) hp2 hs (Int.le_refl _) (by omega) (by omega) HN.out)
 clear hs2 hp2 hb2 hz2
 go_wp2_with fail
 refine HL.out.mono ?_
 rintro e w3 ⟨he3,hm3⟩
 obtain ⟨q,rfl⟩:=he3
 have hm:Below w2.heap.size w2 w3:=hm3
 have HB3:=Aside0.mk (HB2.out.trans (hm.mono HB2.out.size))
 clear hm3 hm
 go_wp2_with fail
 go_ret2
 refine ⟨⟨_,q,rfl,0,?_⟩,(HB3.out.alloc HB3.out.size _).alloc (by have:=HB3.out.size;simp;omega) _⟩
 exact (blk_cell (blk_new2 w3 _ _) 6).trans rfl
set_option maxHeartbeats 1000000 in
theorem begin_no (s:ByteArray) (K:Nat) (w:World) (hT:Lib.Utf8Tabs 1 2 w) (hs:s.size ≤ 2000) (hK:(s.size:Int) < K) (hN:nxt s K 0 false = (none,false)) :
  Calls Tryz.prog 73 #[.string s] w fun e w'=>(∃ P q,e = .returned (.tuple #[ptr P,.iface 182 (ptr q)])) ∧ Below w.heap.size w w':=by
 have HT:=Aside0.mk hT
 have HN:=Aside0.mk hN
 clear hT hN
 have kb:=fun W=>print_bytes (P:=Tryz.prog) 9 74 5 Tryz.underlying9 Tryz.underlying74 Tryz.underlying5 s W
 go_enter Tryz.func73,Tryz.ntmps73
 go_wp2_with fail
 have hS:=src_bytes w s hs HT.out
 have hB0:Below w.heap.size w (Lib.bytesWorld w 5 s):=bytes_below (Below.refl w.heap.size w) (Nat.le_refl _) 5 s
 obtain ⟨W0,hW0⟩:∃ W0,W0 = Lib.bytesWorld w 5 s:=⟨_,rfl⟩
 rw [← hW0] at hS hB0 ⊢
 clear hW0
 have HB0:=Aside0.mk hB0
 obtain ⟨W1,hW1⟩:∃ W1,W1 = W0.alloc (.cells #[.slice (some ⟨w.heap.size,0,none⟩) s.size (grownCap w s.size 0 5),.string ⟨#[]⟩] 76):=⟨_,rfl⟩
 have hN1:W1.heap[W0.heap.size]? = some (.cells #[.slice (some ⟨w.heap.size,0,none⟩) s.size (grownCap w s.size 0 5),.string ⟨#[]⟩] 76 (0,0)):=by rw [hW1];exact blk_new _ _
 have hB1:Below W0.heap.size W0 W1:=by rw [hW1];exact below_alloc (Below.refl _ _) _
 rw [← hW1]
 clear hW1
 have HS0:=Aside0.mk hS
 have HB1:=Aside0.mk hB1
 clear hS hB0 hB1
 refine (newSource_any W0.heap.size _ W1 hN1).mono ?_
 rintro e w1 ⟨rfl,hc1,hb1,hz1⟩
 have hBw:Below W0.heap.size W0 w1:=HB1.out.trans hb1
 have HS1:=Aside0.mk (HS0.out.below hBw)
 have HBw:=Aside0.mk (HB0.out.trans (hBw.mono HB0.out.size))
 have HC1:=Aside0.mk hc1
 clear hc1 hb1 hz1 hBw hN1
 go_wp2_with fail
 refine (makeParser_no s W0.heap.size w.heap.size (grownCap w s.size 0 5) K w1 HS1.out HC1.out hs hK HN.out).mono ?_
 rintro e w2 ⟨⟨P,q,rfl,-⟩,hb2⟩
 have HB2:=Aside0.mk (HBw.out.trans (hb2.mono HBw.out.size))
 clear hb2
 go_wp2_with fail
 go_ret2
 exact ⟨⟨P,q,rfl⟩,HB2.out⟩
theorem run_assert_string {P:Program} {t:TypeId} (hu:P.underlying t = some .string) (v:Value) (xT:TypeId) (w:World):(Instr.typeAssert (.iface t v) xT t true).run P w = .ok (.tuple #[v,.bool true]) w:=by
 simp [Instr.typeAssert,run_underlying hu]
theorem zero72:(Tryz.prog.info? 72).map (·.zero) = some (some (.pointer none)):=by kernel_rfl
def DoorV (s:ByteArray) (l:List S24) (bad:Bool) (o:Option (List S50 × Nat)) (e:Ending) (w':World):Prop:=
 match o with
 | none=>∃ v q,e = .returned (.tuple #[v,.iface 182 (ptr q)]) ∧ IfV v
 | some r=>∃ I p t',e = .returned (.tuple #[.iface I (ptr p),.nilIface]) ∧ RepV w' (fun _=>True) r.1 I p ∧ At s l bad r.2 t'
set_option maxRecDepth 8000 in
set_option maxHeartbeats 2000000 in
theorem doorParseValue_any (s:ByteArray) (l:List S24) (bad:Bool) (w:World) (hT:Lib.Utf8Tabs 1 2 w) (hs:s.size ≤ 2000) (hR:lexR s = (l,bad,false)) :
  Calls Tryz.prog 47 #[.agg #[.iface 9 (.string s),.bool false,.bool false]] w fun e w'=>DoorV s l bad (pval l bad (l.length + 1) 0) e w' ∧ Below w.heap.size w w':=by
 have HT:=Aside0.mk hT
 have HR:=Aside0.mk hR
 obtain ⟨N,hN,hh⟩:=at_first (fun p h1 h2=>(pt_tells s (by omega) p h1 h2).2) hR
 have HN:=Aside0.mk hN
 have HH:=Aside0.mk hh
 obtain ⟨o,ho⟩:∃ o,o = pval l bad (l.length + 1) 0:=⟨_,rfl⟩
 rw [← ho]
 have HO:=Aside0.mk ho
 clear hT hN hh hR ho
 have kb:=fun W=>print_bytes (P:=Tryz.prog) 9 74 5 Tryz.underlying9 Tryz.underlying74 Tryz.underlying5 s W
 have a72:=run_assert_not Tryz.underlying72 (show 9 ≠ 72 by decide) zero72 (.string s)
 have a9:=run_assert_string Tryz.underlying9 (.string s)
 go_enter Tryz.func47,Tryz.ntmps47
 go_wp2_with fail
 obtain ⟨Wi,hWi⟩:∃ Wi,Wi = w.alloc (.cells #[.iface 9 (.string s),.bool false,.bool false] 101):=⟨_,rfl⟩
 have hEi:Wi.heap[w.heap.size]? = some (.cells #[.iface 9 (.string s),.bool false,.bool false] 101 (0,0)):=by rw [hWi];exact blk_new _ _
 have hBi:Below w.heap.size w Wi:=by rw [hWi];exact below_alloc (Below.refl _ _) _
 have hzi:Wi.heap.size = w.heap.size + 1:=by rw [hWi];simp
 rw [← hWi]
 clear hWi
 have hS:=src_bytes Wi s hs (tabs_below HT.out hBi)
 have hB0:Below Wi.heap.size Wi (Lib.bytesWorld Wi 5 s):=bytes_below (Below.refl Wi.heap.size Wi) (Nat.le_refl _) 5 s
 rw [hzi] at hS
 obtain ⟨W0,hW0⟩:∃ W0,W0 = Lib.bytesWorld Wi 5 s:=⟨_,rfl⟩
 rw [← hW0] at hS hB0 ⊢
 clear hW0
 have HB0:=Aside0.mk (hBi.trans (hB0.mono hBi.size))
 have HEi:=Aside0.mk (blk_below hEi hB0)
 obtain ⟨W1,hW1⟩:∃ W1,W1 = W0.alloc (.cells #[.slice (some ⟨w.heap.size + 1,0,none⟩) s.size (grownCap Wi s.size 0 5),.string ⟨#[]⟩] 76):=⟨_,rfl⟩
 have hN1:W1.heap[W0.heap.size]? = some (.cells #[.slice (some ⟨w.heap.size + 1,0,none⟩) s.size (grownCap Wi s.size 0 5),.string ⟨#[]⟩] 76 (0,0)):=by rw [hW1];exact blk_new _ _
 have hB1:Below W0.heap.size W0 W1:=by rw [hW1];exact below_alloc (Below.refl _ _) _
 rw [← hW1]
 clear hW1
 have HS0:=Aside0.mk hS
 have HB1:=Aside0.mk hB1
 clear hS hB0 hB1 hEi hBi hzi
 refine (newSource_any W0.heap.size _ W1 hN1).mono ?_
 rintro e w1 ⟨rfl,hc1,hb1,hz1⟩
 have hBw:Below W0.heap.size W0 w1:=HB1.out.trans hb1
 have HS1:=Aside0.mk (HS0.out.below hBw)
 have HBw:=Aside0.mk (HB0.out.trans (hBw.mono HB0.out.size))
 have HC1:=Aside0.mk hc1
 have hE1:=blk_below HEi.out hBw
 have o1:=(blk_cell hE1 1).trans rfl
 have o2:=(blk_cell hE1 2).trans rfl
 have hle1:=blk_lt hE1
 clear hc1 hb1 hz1 hBw hN1 hE1
 go_wp2_with fail
 cases N with
 | none=>
  have HNO:Aside0 (o = none):=⟨by
   rw [HO.out]
   rcases HH.out with ⟨-,-,h3⟩ | ⟨t,h,-⟩
   ·exact pval_end l bad _ 0 (by omega)
   ·cases h⟩
  refine (makeParser_no s W0.heap.size (w.heap.size + 1) (grownCap Wi s.size 0 5) (s.size + 1) w1 HS1.out HC1.out hs (by omega) HN.out).mono ?_
  rintro e w2 ⟨⟨P,q,rfl,-⟩,hb2⟩
  have HB2:=Aside0.mk (HBw.out.trans (hb2.mono HBw.out.size))
  clear hb2
  go_wp2_with fail
  go_ret2
  exact ⟨by rw [HNO.out];exact ⟨_,q,rfl,.inl rfl⟩,HB2.out⟩
 | some t=>
  have HAT:Aside0 (At s l bad 0 t):=⟨by
   rcases HH.out with ⟨h,-,-⟩ | ⟨t',h,h2⟩
   ·cases h
   ·injection h with h;rw [h];exact h2⟩
  refine (makeParser_any s W0.heap.size (w.heap.size + 1) (grownCap Wi s.size 0 5) (s.size + 1) t w1 HS1.out HC1.out hs (by omega) HN.out).mono ?_
  rintro e w2 ⟨P,pb,sb,rfl,hp⟩
  obtain ⟨E,hE⟩:∃ E:PE,E = ⟨P,pb,sb,W0.heap.size,w.heap.size + 1,grownCap Wi s.size 0 5,s⟩:=⟨_,rfl⟩
  rw [← hE] at hp
  have hEP:P = E.P:=by rw [hE]
  have hEs:E.s = s:=by rw [hE]
  have hC:Ctx E l bad:=Ctx.of (by rw [hEs];exact hs) (by rw [hEs];exact HR.out)
  have hV:=parseValue_at hC w1 (l.length + 1) w2 0 t 0 hp (by rw [hEs];exact HAT.out) (by omega)
  rw [← HO.out] at hV
  have HV:=Aside0.mk hV
  have HP:=Aside0.mk hp
  have HES:=Aside0.mk hEs
  rw [hEP]
  clear hV hp hE hEP hEs hC
  go_wp2_with fail
  refine HV.out.mono ?_
  rintro e w3 ⟨h3,ad⟩
  have HB3:Aside0 (Below w.heap.size w w3):=⟨(HBw.out.trans (HP.out.below.mono HBw.out.size)).trans (ad.below (Nat.le_trans HBw.out.size HP.out.below.size) (Nat.le_trans HBw.out.size HP.out.bP) (Nat.le_trans HBw.out.size HP.out.bpb))⟩
  clear ad
  cases o with
  | none=>
   obtain ⟨v,q,rfl,hv⟩:=h3
   rcases hv with rfl | ⟨T,rfl⟩
   ·go_wp2_with fail
    go_ret2
    exact ⟨⟨_,q,rfl,.inl rfl⟩,HB3.out⟩
   ·go_wp2_with fail
    go_ret2
    exact ⟨⟨_,q,rfl,.inr ⟨T,rfl⟩⟩,HB3.out⟩
  | some r=>
   obtain ⟨I,p,t',pe',rfl,hr,ha,hp'⟩:=h3
   have HF:=Aside0.mk (And.intro hr ha)
   clear hr ha hp'
   go_wp2_with fail
   go_ret2
   exact ⟨⟨I,p,t',rfl,HF.out.1.step (Mv.mono fun _ _=>trivial),by have:=HF.out.2;rw [HES.out] at this;exact this⟩,HB3.out⟩
def SpecV (l:List S24) (b:Bool) (R:List S50 × PS) (sure:Bool) (base:Nat) (e:Ending) (w':World):Prop:=
 (e = .returned (.tuple #[.slice none 0 0,.bool false,.bool false])) ∨
 (R.2.bad = true ∧ e = .returned (.tuple #[.slice none 0 0,.bool false,.bool sure])) ∨
 (R.2.bad = false ∧ R.2.at_ = l.length ∧ b = false ∧ ∃ v,e = .returned (.tuple #[v,.bool true,.bool sure]) ∧ k50.R 50 w' base (fun _=>True) v R.1)
set_option maxHeartbeats 1000000 in
theorem result_any (base g:Nat) (l:List S24) (x:PS) (v:Value) (su:Bool) (w:World) (h:Px w base g l x) :
  Calls Tryz.prog 46 #[.pointer (some ⟨g,0,none⟩),v,.bool su] w fun e w'=>(e = if x.bad = true then .returned (.tuple #[.slice none 0 0,.bool false,.bool (su && !x.unsure)]) else .returned (.tuple #[v,.bool true,.bool (su && !x.unsure)])) ∧ Below w.heap.size w w':=by
 obtain ⟨A,c,hc,hC,c0,c1,c2,c3,c4,c5,fz⟩:=h.cells
 clear hC h
 obtain ⟨xa,xd,xw,xb,xu⟩:=x
 dsimp only at *
 cases xb <;> cases su <;> cases xu
 all_goals
  go_enter Tryz.func46,Tryz.ntmps46
  go_wp2_with fail
  go_region
  all_goals
   go_wp2_with fail
   go_ret3
   exact ⟨rfl,pw_below_drewN (Below.refl _ _) 1⟩
end Go.Proofs.YtbobbognjmofdaaGreatDoor.Lex
end
