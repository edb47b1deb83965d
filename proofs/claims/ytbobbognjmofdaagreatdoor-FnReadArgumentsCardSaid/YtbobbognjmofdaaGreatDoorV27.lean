import Derived.Test.YtbobbognjmofdaaGreatDoorV20
import Derived.Test.YtbobbognjmofdaaGreatDoorV25
import Derived.ArgAppend
import Derived.Test.YtbobbognjmofdaaGreatDoorV22
section
namespace Go.Proofs.YtbobbognjmofdaaGreatDoor.Lex
open Go.RowKit Go.Proofs.YtbobbognjmofdaaGreatDoorW.PrintWords Go.Proofs.YtbobbognjmofdaaGreatDoorW.PrintLast Go.Proofs.YtbobbognjmofdaaGreatDoorW.PrintMore
open Go.Proofs.YtbobbognjmofdaaGreatDoor.Ptext
set_option linter.unusedVariables false
set_option linter.unusedSimpArgs false
def argd (val:PS → List S50 × PS) (l:List S24) (x:PS):List S50 × PS:=(made (nd 9 (x.named l).1) [(val (fieldd l x)).1],(val (fieldd l x)).2)
def argsL (val:PS → List S50 × PS) (l:List S24) (x:PS):List (List S50) × PS:=loopd 5 (argd val l) l 3001 x []
def argsd (val:PS → List S50 × PS) (l:List S24) (x:PS):List S50 × PS:=
 if x.takes l 4 = true then
  if kd l (x.at_ + 1) = 5 then ([],x.failed)
  else ((argsL val l x.next).1.flatten,(argsL val l x.next).2)
 else ([],x)
def pargs (l:List S24) (bad:Bool) (n i:Nat):Option (List (List S50) × Nat):=
 if kd l i = 4 then
  match pnext l bad i with
  | none=>none
  | some j=>(match plist 5 (pfield 9 (pval l bad n) l bad) l bad (l.length + 1) j [] with
   | none=>none
   | some r=>if r.1 = [] then none else some r)
 else some ([],i)
def AgreeA (l:List S24) (bad:Bool) (r:List S50 × PS) (o:Option (List (List S50) × Nat)):Prop:=
 match o with
 | none=>Refd l bad r.2
 | some q=>r.2.bad = false ∧ r.1.map S50.flat = q.1.flatten.map S50.flat ∧ r.2.at_ = q.2
theorem argd_fldd (val:PS → List S50 × PS) (l:List S24) (x:PS):(argd val l x).2 = (fldd val l x).2 ∧ (argd val l x).1.length = (fldd val l x).1.length:=by
 unfold argd fldd
 exact ⟨rfl,by rw [made_len,made_len]⟩
theorem argd_keeps {val:PS → List S50 × PS} {l:List S24} {n B:Nat} (hv:∀ x:PS,x.ok l → Keeps l n B x (val x)) (x:PS) (h:x.ok l):Keeps l n (B + 1) x (argd val l x):=by
 obtain ⟨h1,h2,h3,h4,h5,e0,e1,e2,e3,e4⟩:=fldd_keeps hv x h
 obtain ⟨a,b⟩:=argd_fldd val l x
 rw [← a] at h1 h2 h3 h4 h5 e0 e1 e2 e3 e4
 rw [← b] at e3 e4
 exact ⟨h1,h2,h3,h4,h5,e0,e1,e2,e3,e4⟩
theorem arg_agree {f:PS → List S50 × PS} {g:Nat → Option (List S50 × Nat)} {l:List S24} {bad:Bool} {n B:Nat} (hl:l.length ≤ 3000) (hv:∀ x:PS,x.ok l → Keeps l n B x (f x)) (D:Int) (lo:Nat)
  (hf:∀ (y:PS) (j:Nat),y.bad = false → y.at_ = j → j ≤ l.length → lo ≤ j → y.deep = D → (f y).2.unsure = false → Agree l bad (f y) (g j))
  (y:PS) (j:Nat) (hb:y.bad = false) (ha:y.at_ = j) (hj:j ≤ l.length) (hlo:lo ≤ j) (hD:y.deep = D) (hu:(argd f l y).2.unsure = false):Agree l bad (argd f l y) (pfield 9 g l bad j):=by
 obtain ⟨a,b⟩:=argd_fldd f l y
 have h:=field_agree hl hv D lo hf y j hb ha hj hlo hD (by rw [← a];exact hu)
 have hp:∀ q,pfield q g l bad j = (match pfield 19 g l bad j with | none=>none | some r=>some (made (nd q (rd_T24 l j).f1) [r.1.tail],r.2)):=by
  intro q
  unfold pfield
  by_cases h15:kd l j = 15
  ·rw [if_pos h15,if_pos h15]
   cases pnext l bad j with
   | none=>rfl
   | some j1=>
    by_cases h7:kd l (j1:Int) = 7
    ·dsimp only
     rw [if_pos h7,if_pos h7]
     cases pnext l bad j1 with
     | none=>rfl
     | some j2=>
      dsimp only
      cases g j2 with
      | none=>rfl
      | some r=>simp [made]
    ·dsimp only
     rw [if_neg h7,if_neg h7]
  ·rw [if_neg h15,if_neg h15]
 rw [hp 9]
 cases hq:pfield 19 g l bad j with
 | none=>
  rw [hq] at h
  show Refd l bad (argd f l y).2
  rw [a]
  exact h
 | some q=>
  rw [hq] at h
  obtain ⟨h1,h2,h3⟩:=h
  refine ⟨by rw [a];exact h1,?_,by rw [a];exact h3⟩
  unfold fldd at h2
  unfold argd
  have hk15:kd l j = 15:=by
   by_cases h15:kd l j = 15
   ·exact h15
   ·unfold pfield at hq
    rw [if_neg h15] at hq
    cases hq
  rw [named_yes hb ha hk15] at h2 ⊢
  have ht:((f (fieldd l y)).1).map S50.flat = q.1.tail.map S50.flat:=by
   have:=congrArg List.tail h2
   simpa [made] using this
  exact flat_made (fun k=>rfl) (by simp [ht])
theorem plist_grows {c:Int} {g:Nat → Option (List S50 × Nat)} {l:List S24} {bad:Bool}:∀ (k j:Nat) (acc:List (List S50)) (r:List (List S50) × Nat),plist c g l bad k j acc = some r → acc.length ≤ r.1.length
 | 0,j,acc,r,h=>by rw [plist] at h;cases h
 | k + 1,j,acc,r,h=>by
  rw [plist] at h
  split at h
  ·cases hp:pnext l bad j with
   | none=>rw [hp] at h;cases h
   | some j1=>
    rw [hp] at h
    injection h with h
    rw [← h]
    exact Nat.le_refl _
  ·cases hg:g j with
   | none=>rw [hg] at h;cases h
   | some q=>
    rw [hg] at h
    have:=plist_grows k q.2 (acc ++ [q.1]) r h
    rw [List.length_append] at this
    omega
theorem args_agree {l:List S24} {bad:Bool} (hl:l.length ≤ 2000) (n m:Nat) (x:PS) (i:Nat) (hb:x.bad = false) (ha:x.at_ = i) (hi:i ≤ l.length) (hd:61 ≤ x.deep + n) (hm:l.length < i + m) (hu:(argsd (vald n l) l x).2.unsure = false) :
  AgreeA l bad (argsd (vald n l) l x) (pargs l bad m i):=by
 unfold argsd at hu ⊢
 unfold pargs
 rw [PS.takes_eq hb ha] at hu ⊢
 by_cases h4:kd l i = 4
 ·rw [if_pos (by rw [h4];rfl)] at hu ⊢
  rw [if_pos h4]
  have hil:=kd_in (l:=l) (i:=i) (by rw [h4];decide)
  have hna:x.next.at_ = (i + 1:Nat):=PS.next_at ha
  have hxa:x.at_ + 1 = ((i + 1:Nat):Int):=by rw [ha];omega
  rw [hxa] at hu ⊢
  by_cases h5:kd l ((i + 1:Nat):Int) = 5
  ·rw [if_pos h5]
   have hbad:Refd l bad x.failed:=.inl (PS.bad_failed x)
   cases hp:pnext l bad i with
   | none=>exact hbad
   | some j=>
    obtain ⟨rfl,-⟩:=pnext_some hp
    show AgreeA l bad _ (match plist 5 _ l bad (l.length + 1) (i + 1) [] with | none=>none | some r=>if r.1 = [] then none else some r)
    rw [plist,if_pos h5]
    cases hp2:pnext l bad (i + 1) with
    | none=>exact hbad
    | some j2=>exact hbad
  ·rw [if_neg h5] at hu ⊢
   have hu:(loopd 5 (argd (vald n l) l) l 3001 x.next []).2.unsure = false:=hu
   have hA:=rounds_agree (q:=17) (bad:=bad) (show (5:Int) ≠ 1 by decide) hl (argd_keeps (vald_keeps l n)) x.deep (i + 1) (fun y j h1 h2 h3 h4 h5 h6=>arg_agree (bad:=bad) (g:=pval l bad m) (by omega) (vald_keeps l n) x.deep (i + 1) (fun y j h1 h2 h3 h4 h5 h6=>val_agree hl n m y j h1 h2 h3 (by rw [h5];exact hd) (by omega) h6) y j h1 h2 h3 h4 h5 h6) (fun j=>pfield_end 9 _ l bad j) hb ha hil (by omega) rfl hu
   unfold argsL
   cases hp:pnext l bad i with
   | none=>rw [hp] at hA;exact hA
   | some j=>
    obtain ⟨rfl,-⟩:=pnext_some hp
    rw [hp] at hA
    show AgreeA l bad _ (match plist 5 (pfield 9 (pval l bad m) l bad) l bad (l.length + 1) (i + 1) [] with | none=>none | some r=>if r.1 = [] then none else some r)
    have hA:Agree l bad _ (match plist 5 (pfield 9 (pval l bad m) l bad) l bad (l.length + 1) (i + 1) [] with | none=>none | some r=>some (made (nd 17 ⟨#[]⟩) r.1,r.2)):=hA
    cases hq:plist 5 (pfield 9 (pval l bad m) l bad) l bad (l.length + 1) (i + 1) [] with
    | none=>rw [hq] at hA;exact hA
    | some r=>
     rw [hq] at hA
     obtain ⟨a1,a2,a3⟩:=hA
     have hne:r.1 ≠ []:=by
      rw [plist,if_neg h5] at hq
      cases hg:pfield 9 (pval l bad m) l bad (i + 1) with
      | none=>rw [hg] at hq;cases hq
      | some q=>
       rw [hg] at hq
       have:=plist_grows _ _ _ _ hq
       intro he
       rw [he] at this
       simp at this
     show AgreeA l bad _ (if r.1 = [] then none else some r)
     rw [if_neg hne]
     refine ⟨a1,?_,a3⟩
     have:=congrArg List.tail a2
     simpa [made] using this
 ·rw [if_neg (by simpa using h4),if_neg h4]
  exact ⟨hb,rfl,ha⟩
end Go.Proofs.YtbobbognjmofdaaGreatDoor.Lex
end
section
namespace Go.Proofs.YtbobbognjmofdaaGreatDoor.Lex
open Go.RowKit Go.Proofs.YtbobbognjmofdaaGreatDoorW.PrintWords Go.Proofs.YtbobbognjmofdaaGreatDoorW.PrintLast Go.Proofs.YtbobbognjmofdaaGreatDoorW.PrintMore
open Go.Proofs.YtbobbognjmofdaaGreatDoor.Ptext
set_option linter.unusedVariables false
set_option linter.unusedSimpArgs false
section
variable {P:Program} {ops:Array Oper} {o:Oper} {a:Act} {Q:Exit → Act → World → Prop} {Kc:Act → World → Prop} {α:Type}
open Kd in
theorem R_append_rows_step (d:Kd α) {Rr:α → List Value → Prop} {W:World} (base:Nat) (hw:Region.wanted o (yielded ops a.tmps) = true) (s x:Operand) (t e:TypeId) (z:Value) (bytes:Nat)
  (ho:o.op = .call { callee:=.builtin .append,args:=#[s,x],argTypes:=#[t,t] })
  (ht:P.underlying t = some (.slice e)) (hinfo:(P.info? e).map (fun i=>(i.zero,i.size,i.bytes)) = some (some z,d.sz,bytes)) (hz:z.cells.size = d.sz) (hs0:0 < d.sz) (hb0:0 < bytes)
  (v:Value) (xs ys:List α) (A:Option Addr) (m c:Nat) (ok okp:Nat → Prop) (hs:a.eval s = v) (hx:a.eval x = .slice A m c)
  (HO:d.R e W base ok v xs) (HR:ReadsRow Rr d.sz W A m ys) (hKM:∀ x cs,Rr x cs → d.M W base okp x cs) (hokp:∀ k,okp k → ok k ∧ some k ≠ v.ownBlock) (hfresh:∀ k,W.heap.size ≤ k → ok k)
  (hbase:base ≤ W.heap.size) (hl:(xs.length + m) * bytes ≤ 140737488355328)
  (h:∀ v1 w1,d.R e w1 base ok v1 (xs ++ ys) → W.grownBy w1 v.ownBlock → (v1.ownBlock = v.ownBlock ∨ ∃ b,v1.ownBlock = some b ∧ W.heap.size ≤ b) → Kc (a.put o.dst v1) w1) :
  if Region.wanted o (yielded ops a.tmps) = true then Oper.wp P o a W Kc Q else Kc (a.put o.dst undef) W:=by
 obtain ⟨i0,hi,hzz⟩:=Option.map_eq_some_iff.1 hinfo
 simp only [Prod.mk.injEq] at hzz
 obtain ⟨hz0,hz1,hz2⟩:=hzz
 have hm:ys.length = m:=HR.1
 have hlen:xs.length + m ≤ 140737488355328:=Nat.le_trans (Nat.le_mul_of_pos_right _ hb0) hl
 obtain ⟨hok,inner,hown,hr⟩:=HO
 have hrun:∃ v1 w1,(Builtin.append_ #[t,t] o.type #[v,.slice A m c]).run P W = .ok v1 w1 ∧ d.R e w1 base ok v1 (xs ++ ys) ∧ W.grownBy w1 v.ownBlock ∧ (v1.ownBlock = v.ownBlock ∨ ∃ b,v1.ownBlock = some b ∧ W.heap.size ≤ b):=by
  rcases A with _ | ad
  ·have h0:m = 0:=by
    rcases Nat.eq_zero_or_pos m with h0 | h0
    ·exact h0
    ·obtain ⟨ad,h,_⟩:=HR.2.2 h0
     cases h
   subst h0
   obtain rfl:ys = []:=List.eq_nil_of_length_eq_zero hm
   refine ⟨v,W,?_,by rw [List.append_nil];exact ⟨hok,inner,hown,hr⟩,World.grownBy.refl W _,.inl rfl⟩
   rcases hown.2 with ⟨rfl,hn⟩ | ⟨g,cap,cur,rfl,_,_,hnc,_⟩
   ·simp [Builtin.append_,run_underlying ht,sizeOf,typeInfo,hi,Builtin.lenOf,Builtin.firstCells]
   ·simp [Builtin.append_,run_underlying ht,sizeOf,typeInfo,hi,Builtin.lenOf,Builtin.firstCells,hnc,storeCells]
  ·obtain ⟨news,hnr,hnc⟩:=ReadsRow.inner_ HR
   have hnM:Reps (d.M W base okp) d.sz ys news:=hnr.imp_ (fun p c hp=>hKM p c hp)
   have hone:∀ u ∈ news,u.oneCell' = true:=by
    intro u hu
    obtain ⟨q,hq,rfl⟩:=List.mem_iff_getElem.1 hu
    have hql:q / d.sz < ys.length:=by
     rw [Nat.div_lt_iff_lt_mul hs0]
     rw [← hnM.1]
     exact hq
    have hc:=hnM.2 (q / d.sz) _ (List.getElem?_eq_getElem hql)
    refine d.K_one (d.K_of_M hc) _ ?_
    rw [List.mem_iff_getElem?]
    refine ⟨q % d.sz,?_⟩
    rw [List.getElem?_take,if_pos (Nat.mod_lt _ hs0),List.getElem?_drop,Nat.mul_comm,Nat.div_add_mod,List.getElem?_eq_getElem hq]
   obtain ⟨v1,w1,hrun,h2,hg,_,hat⟩:=run_append_own_at (P:=P) W base t o.type e i0 z d.sz bytes ht hi hz0 hz1 hz2 hz hs0 v xs.length inner hown ad m c news (by rw [hnM.1,hm]) hnc hone (by simp only [maxLen];omega) hl hbase
   have hat':v1.ownBlock = v.ownBlock ∨ ∃ b,v1.ownBlock = some b ∧ W.heap.size ≤ b:=by
    rcases hat with hat | hat
    ·exact .inl hat
    ·exact .inr ⟨_,hat,Nat.le_refl _⟩
   have hne:∀ k,some k ≠ v.ownBlock → k < W.heap.size → some k ≠ v1.ownBlock:=by
    intro k hk hlt
    rcases hat' with hat | ⟨b,hb,hle⟩
    ·rw [hat];exact hk
    ·rw [hb]
     intro he
     injection he with he
     omega
   have step:∀ {q:α} {c:List Value} {o:Nat → Prop},d.M W base o q c → (∀ k,o k → ok k ∧ some k ≠ v.ownBlock) → d.M w1 base (fun k=>ok k ∧ some k ≠ v1.ownBlock) q c:=by
    intro q c o hq ho
    have h1:=d.M_move (w1:=w1) (fun k hk=>hg.block k hk.2.2.1 (ho k hk.1).2) (d.M_bound hq)
    exact d.M_mono (fun k hk=>⟨(ho k hk.1).1,hne k (ho k hk.1).2 hk.2.2.1⟩) h1
   refine ⟨v1,w1,hrun,⟨fun k hk=>?_,inner ++ news,by rw [List.length_append,hm];exact h2,reps_append (hr.imp_ (fun _ _ hq=>step hq (fun _ hk=>hk))) (hnM.imp_ (fun _ _ hq=>step hq hokp))⟩,hg,hat'⟩
   rcases hat' with hat | ⟨b,hb,hle⟩
   ·exact hok k (hat ▸ hk)
   ·rw [hb] at hk
    injection hk with hk
    exact hfresh k (by omega)
 obtain ⟨v1,w1,hr1,h1,hg,hat⟩:=hrun
 rw [if_pos hw]
 unfold Oper.wp
 simp [execOp,ho,resolve,invoke,builtin,hs,hx,hr1,Result.andThen]
 exact h v1 w1 h1 hg hat
end
def PS.somed (l:List S24) (x:PS) (k:Int):PS:=if !x.bad && kd l x.at_ == k then PS.failed { x with at_:=x.at_ - 1 } else x
set_option maxHeartbeats 1000000 in
theorem some_any (base g:Nat) (l:List S24) (x:PS) (k:Int) (w:World) (h:Px w base g l x) (ho:x.ok l) :
  Calls Tryz.prog 113 #[.pointer (some ⟨g,0,none⟩),.int .i64 k] w fun e w'=>e = .returned (.tuple #[]) ∧ Px w' base g l (x.somed l k) ∧ w.grownBy w' (some g):=by
 have HX:=Aside0.mk h
 have HK:=Aside0.mk (kind_any base g l x 0 w h ho (by omega) (by omega))
 have ho0:=ho.a0
 have ho1:=ho.a1
 have ho2:=ho.ll
 obtain ⟨A,c,hc,hC,c0,c1,c2,c3,c4,c5,fz⟩:=h.cells
 clear h hC ho
 obtain ⟨xa,xd,xw,xb,xu⟩:=x
 rw [show (PS.mk xa xd xw xb xu).at_ + 0 = xa from Int.add_zero xa] at HK
 have HF:=Aside0.mk (fun W h=>pfail_any base g l ⟨xa - 1,xd,xw,xb,xu⟩ W h)
 dsimp only at ho0 ho1 c1 c2 c3 c4 c5
 have hw1:IntKind.i64.wrap (xa - 1) = xa - 1:=by rw [i64_w];unfold wrap64;omega
 obtain ⟨q,hq⟩:∃ q,q = kd l xa:=⟨_,rfl⟩
 rw [← hq] at HK
 cases xb with
 | true=>
  have ht:PS.somed l ⟨xa,xd,xw,true,xu⟩ k = ⟨xa,xd,xw,true,xu⟩:=rfl
  rw [ht]
  clear ht hq
  go_enter Tryz.func113,Tryz.ntmps113
  go_wp2_with fail
  go_end0
  exact ⟨rfl,HX.out,World.grownBy.refl _ _⟩
 | false=>
  by_cases hk:q = k
  ·have ht:PS.somed l ⟨xa,xd,xw,false,xu⟩ k = PS.failed ⟨xa - 1,xd,xw,false,xu⟩:=by unfold PS.somed;rw [if_pos (by show (!false && kd l xa == k) = true;rw [← hq,hk];simp)]
   rw [ht]
   have hqb:(q == k) = true:=by simp [hk]
   clear ht hk hq
   go_enter Tryz.func113,Tryz.ntmps113
   go_wp2_with fail
   refine HK.out.mono ?_
   rintro e w1 ⟨rfl,⟨m,rfl⟩⟩
   have hX1:=Aside0.mk ((HX.out.drewN m).set1 (xa - 1))
   have hG1:=Aside0.mk (grw_set (grw_drewN g w m) 1 (.int .i64 (xa - 1)))
   go_wp2_with fail
   refine (HF.out _ hX1.out).mono ?_
   rintro e w2 ⟨rfl,hX2,hG2⟩
   have HX2:=Aside0.mk hX2
   have HG2:=Aside0.mk (grw_trans hG1.out hG2)
   clear hX2 hG2
   go_wp2_with fail
   go_end0
   exact ⟨rfl,HX2.out,HG2.out⟩
  ·have ht:PS.somed l ⟨xa,xd,xw,false,xu⟩ k = ⟨xa,xd,xw,false,xu⟩:=by unfold PS.somed;rw [if_neg (by show ¬ (!false && kd l xa == k) = true;rw [← hq];simpa using hk)]
   rw [ht]
   have hqb:(q == k) = false:=by simpa using hk
   clear ht hk hq
   go_enter Tryz.func113,Tryz.ntmps113
   go_wp2_with fail
   refine HK.out.mono ?_
   rintro e w1 ⟨rfl,⟨m,rfl⟩⟩
   go_wp2_with fail
   go_end0
   exact ⟨rfl,HX.out.drewN m,grw_drewN _ _ _⟩
theorem flat_snoc' (acc:List (List S50)) (y:List S50):(acc ++ [y]).flatten = acc.flatten ++ y:=by simp
theorem loopd_flat {c:Int} {f:PS → List S50 × PS} {l:List S24} {RR:List (List S50) × PS}:∀ (k:Nat) (x:PS) (acc:List (List S50)),loopd c f l k x acc = RR → acc.flatten.length ≤ RR.1.flatten.length
 | 0,x,acc,h=>by rw [← h];exact Nat.le_refl _
 | k + 1,x,acc,h=>by
  rw [loopd] at h
  split at h
  ·rw [← h];exact Nat.le_refl _
  ·split at h
   ·rw [← h];exact Nat.le_refl _
   ·have:=loopd_flat k _ _ h
    rw [flat_snoc',List.length_append] at this
    omega
structure ARnds (base g:Nat) (l:List S24) (f:PS → List S50 × PS) (RR:List (List S50) × PS) (D:Int) (w wr:World) (vk:Value) (k:Nat) (y:PS) (acc:List (List S50)):Prop where
 eq:loopd 5 f l k y acc = RR
 ok:y.ok l
 dp:y.bad = false → y.deep = D
 k0:y.bad = false → (l.length:Int) < y.at_ + k
 al:(acc.length:Int) ≤ y.at_ + (if y.bad = true then 1 else 0)
 fl:acc.flatten.length ≤ 20000
 fst:acc = [] → y.bad = false → y.takes l 5 = false
 px:Px wr base g l y
 row:k50.R 50 wr base (fun _=>True) vk acc.flatten
 own:∀ b,vk.ownBlock = some b → w.heap.size ≤ b
 grw:w.grownBy wr (some g)
theorem ARnds.out_bad {base g:Nat} {l:List S24} {f:PS → List S50 × PS} {RR:List (List S50) × PS} {D:Int} {w wr:World} {vk:Value} {k:Nat} {y:PS} {acc:List (List S50)} (h:ARnds base g l f RR D w wr vk k y acc) (hb:y.bad = true):RR = (acc,y):=by
 have:=h.eq
 cases k with
 | zero=>exact this.symm
 | succ k=>rw [loopd,if_pos hb] at this;exact this.symm
theorem ARnds.out_take {base g:Nat} {l:List S24} {f:PS → List S50 × PS} {RR:List (List S50) × PS} {D:Int} {w wr:World} {vk:Value} {k:Nat} {y:PS} {acc:List (List S50)} (h:ARnds base g l f RR D w wr vk k y acc) (hb:y.bad = false) (ht:y.takes l 5 = true):RR = (acc,y.took l 5):=by
 have:=h.eq
 have h1:=h.k0 hb
 have h2:=h.ok.a1
 cases k with
 | zero=>omega
 | succ k=>
  rw [loopd,if_neg (by rw [hb];decide),if_pos ht] at this
  rw [← this]
  unfold PS.took PS.next
  rw [if_pos ht]
theorem ARnds.len {base g:Nat} {l:List S24} {f:PS → List S50 × PS} {RR:List (List S50) × PS} {D:Int} {w wr:World} {vk:Value} {k:Nat} {y:PS} {acc:List (List S50)} (h:ARnds base g l f RR D w wr vk k y acc):acc.length ≤ 3001:=by
 have h1:=h.al
 have h2:=h.ok.a1
 have h3:=h.ok.ll
 split at h1 <;> omega
theorem Px.own50 {W W1:World} {base g:Nat} {l:List S24} {x:PS} {v:Value} (h:Px W base g l x) (hg:W.grownBy W1 v.ownBlock) (ht:∀ b,v.ownBlock = some b → ∃ cells,W.heap[b]? = some (.cells cells 50 (0,0))):Px W1 base g l x:=by
 obtain ⟨u,h,hb,hR⟩:=h
 refine ⟨u,blk_own h hg ht (by decide),hb,R_own_far hR hg ht ?_⟩
 simp [k24,Kd.iso,Kd.pair,Kd.int,Kd.string,Kd.scalar]
theorem ARnds.more {base g n B:Nat} {l:List S24} {f:PS → List S50 × PS} {RR:List (List S50) × PS} {D:Int} {w wr w2 w3:World} {vk v3:Value} {k:Nat} {y:PS} {acc:List (List S50)} (h:ARnds base g l f RR D w wr vk k y acc) (hb:y.bad = false) (ht:y.takes l 5 = false)
  (hv:∀ x:PS,x.ok l → Keeps l n B x (f x)) (hfl:RR.1.flatten.length ≤ 20000) (hX:Px w2 base g l (f y).2) (hG:w.grownBy w2 (some g)) (hR:k50.R 50 w3 base (fun _=>True) v3 (acc.flatten ++ (f y).1)) (hty:∀ b,vk.ownBlock = some b → ∃ cells,w2.heap[b]? = some (.cells cells 50 (0,0))) (hg:w2.grownBy w3 vk.ownBlock) (hat:v3.ownBlock = vk.ownBlock ∨ ∃ b,v3.ownBlock = some b ∧ w2.heap.size ≤ b) :
  ARnds base g l f RR D w w3 v3 (k - 1) (f y).2 (acc ++ [(f y).1]):=by
 have h1:=h.k0 hb
 have h2:=h.ok.a1
 have hK:=hv y h.ok
 have he:=h.eq
 cases k with
 | zero=>omega
 | succ k=>
  rw [loopd,if_neg (by rw [hb];decide),if_neg (by rw [ht];decide)] at he
  have hal:=h.al
  rw [hb] at hal
  have hal:(acc.length:Int) ≤ y.at_ + 0:=hal
  have hat2:=hK.at_
  refine ⟨he,hK.ok,fun e=>(hK.de e).trans (h.dp hb),fun e=>?_,?_,?_,fun e=>by simp at e,hX.own50 hg hty,by rw [flat_snoc'];exact hR,fun b hb2=>?_,grw_own hG hg h.own⟩
  ·rcases hK.on with q | q
   ·show (l.length:Int) < (f y).2.at_ + k;omega
   ·rw [q] at e;cases e
  ·rw [List.length_append,List.length_singleton]
   rcases hK.on with q | q
   ·split <;> omega
   ·rw [if_pos q];omega
  ·exact Nat.le_trans (loopd_flat k (f y).2 (acc ++ [(f y).1]) he) hfl
  ·rcases hat with e | ⟨b',e,hle⟩
   ·exact h.own b (e ▸ hb2)
   ·rw [e] at hb2
    injection hb2 with hb2
    have:=hG.size
    omega
set_option maxRecDepth 8000 in
set_option maxHeartbeats 4000000 in
theorem args_any (base g:Nat) (l:List S24) (n:Nat) (x:PS) (w:World) (h:Px w base g l x) (ho:x.ok l) (hd0:0 ≤ x.deep) (hd1:x.deep ≤ 60) (hd2:61 ≤ x.deep + n) (hb:base ≤ w.heap.size) (hn:n ≤ 100) :
  Calls Tryz.prog 70 #[.pointer (some ⟨g,0,none⟩),.bool false] w (Reads base g l (argsd (vald n l) l x) w):=by
 have HT:=Aside0.mk (taken_any base g l x 4 w h ho)
 obtain ⟨b4,hb4⟩:∃ b,b = x.takes l 4:=⟨_,rfl⟩
 rw [← hb4] at HT
 have HX:=Aside0.mk h
 cases b4 with
 | false=>
  have hR:argsd (vald n l) l x = ([],x):=by unfold argsd;rw [if_neg (by rw [← hb4];decide)]
  have htk:x.took l 4 = x:=by unfold PS.took;rw [if_neg (by rw [← hb4];decide)]
  rw [hR]
  rw [htk] at HT
  clear hR htk hb4 h
  go_enter Tryz.func70,Tryz.ntmps70
  go_wp2_with fail
  refine HT.out.mono ?_
  rintro e w1 ⟨rfl,hX1,hG1⟩
  have HX1:=Aside0.mk hX1
  have HG1:=Aside0.mk hG1
  clear hX1 hG1
  go_wp2_with fail
  go_ret
  exact ⟨⟨_,rfl,Kd.R_nil _ _ _ _ _⟩,HX1.out,HG1.out⟩
 | true=>
  have hlt:=PS.takes_lt hb4.symm (by decide)
  have hbad:x.bad = false:=by have:=hb4.symm;unfold PS.takes at this;cases hx:x.bad;rfl;rw [hx] at this;cases this
  have htk:x.took l 4 = x.next:=by unfold PS.took;rw [if_pos hb4.symm];rfl
  rw [htk] at HT
  have hok1:x.next.ok l:=ho.next hlt
  have HS:=Aside0.mk (fun W (hX:Px W base g l x.next)=>some_any base g l x.next 5 W hX hok1)
  by_cases h5:kd l (x.at_ + 1) = 5
  ·have hR:argsd (vald n l) l x = ([],x.failed):=by unfold argsd;rw [if_pos hb4.symm,if_pos h5]
   have hsm:x.next.somed l 5 = x.failed:=by
    unfold PS.somed PS.next
    rw [if_pos (by show (!x.bad && kd l (x.at_ + 1) == 5) = true;rw [hbad,h5];rfl)]
    congr 1
    show (⟨x.at_ + 1 - 1,x.deep,x.wrong,x.bad,x.unsure⟩:PS) = x
    rw [Int.add_sub_cancel]
   rw [hR]
   rw [hsm] at HS
   have hfb:=PS.bad_failed x
   obtain ⟨z,hz⟩:∃ z,z = x.failed:=⟨_,rfl⟩
   rw [← hz] at HS hfb ⊢
   clear hR htk hb4 h hsm h5 hz
   go_enter Tryz.func70,Tryz.ntmps70
   go_wp2_with fail
   refine HT.out.mono ?_
   rintro e w1 ⟨rfl,hX1,hG1⟩
   have HX1:=Aside0.mk hX1
   have HG1:=Aside0.mk hG1
   clear hX1 hG1
   go_wp2_with fail
   refine (HS.out w1 HX1.out).mono ?_
   rintro e w2 ⟨rfl,hX2,hG2⟩
   have HX2:=Aside0.mk hX2
   have HG2:=Aside0.mk (grw_trans HG1.out hG2)
   obtain ⟨A2,cc2,-,-,d0,d1,d2,d3,d4,d5,fz2⟩:=hX2.cells
   rw [hfb] at d4
   clear hX2 hG2 d0 d1 d2 d3 d5
   go_wp2_with fail
   refine wp_loop_rounds 1 ?_
   rw [rounds_succ]
   go_wp2_with fail
   go_ret
   exact ⟨⟨_,rfl,Kd.R_nil _ _ _ _ _⟩,HX2.out,HG2.out⟩
  ·have hR:argsd (vald n l) l x = ((argsL (vald n l) l x.next).1.flatten,(argsL (vald n l) l x.next).2):=by unfold argsd;rw [if_pos hb4.symm,if_neg h5]
   have hsm:x.next.somed l 5 = x.next:=by
    unfold PS.somed
    rw [if_neg (by show ¬ (!x.bad && kd l (x.at_ + 1) == 5) = true;rw [hbad];simpa using h5)]
   have hnt:x.next.takes l 5 = false:=by
    unfold PS.takes
    show (!x.bad && kd l (x.at_ + 1) == 5) = false
    rw [hbad]
    simpa using h5
   rw [hR]
   rw [hsm] at HS
   have hkv:=argd_keeps (vald_keeps l n)
   have hkp:=loopd_keeps (c:=5) (by decide) hkv 3001 x.next [] hok1 (by have:=ho.a0;have:=ho.ll;show (l.length:Int) < x.at_ + 1 + (3001:Nat);omega)
   obtain ⟨RR,hRR⟩:∃ RR,RR = loopd 5 (argd (vald n l) l) l 3001 x.next []:=⟨_,rfl⟩
   rw [← hRR] at hkp
   have hRL:argsL (vald n l) l x.next = RR:=by rw [hRR];rfl
   rw [hRL]
   have hfl:RR.1.flatten.length ≤ 20000:=by
    have q1:=hkp.l1
    have q2:=hkp.ok.a1
    have q3:=ho.a0
    have q5:=ho.ll
    have q4:(RR.1.flatten.length:Int) ≤ 0 + 3 * (RR.2.at_ - (x.at_ + 1)) + (2 * n + 1:Nat):=q1
    omega
   have HFLN:=Aside0.mk hfl
   have HKV:=Aside0.mk hkv
   have hat0:=ho.a0
   have hll:=ho.ll
   have hA0:∀ W,Px W base g l x.next → w.grownBy W (some g) → ARnds base g l (argd (vald n l) l) RR x.deep w W (.slice none 0 0) 3001 x.next []:=fun W hX hG=>
    { eq:=hRR.symm,ok:=hok1,dp:=fun _=>rfl,k0:=fun _=>by show (l.length:Int) < x.at_ + 1 + (3001:Nat);omega,al:=by show (0:Int) ≤ (x.at_ + 1) + _;split <;> omega,fl:=by simp,fst:=fun _ _=>hnt,px:=hX,row:=Kd.R_nil _ _ _ _ _,own:=fun b hb=>by simp [Value.ownBlock] at hb,grw:=hG }
   have HA0:=Aside0.mk hA0
   clear hR htk hb4 h hsm h5 hkp hRR hRL hfl hkv hA0 hnt hlt ho HX
   go_enter Tryz.func70,Tryz.ntmps70
   go_wp2_with fail
   refine HT.out.mono ?_
   rintro e w1 ⟨rfl,hX1,hG1⟩
   have HX1:=Aside0.mk hX1
   have HG1:=Aside0.mk hG1
   clear hX1 hG1
   go_wp2_with fail
   refine (HS.out w1 HX1.out).mono ?_
   rintro e w2 ⟨rfl,hX2,hG2⟩
   have HR0:=Aside0.mk (HA0.out w2 hX2 (grw_trans HG1.out hG2))
   clear hX2 hG2 HA0 HX1 HG1 HS HT
   go_wp2_with fail
   go_loopw [5,6] (fun v5 v6 wr=>∃ (vk:Value) (k:Nat) (y:PS) (acc:List (List S50)),vk = v5 ∧ v6 = .int .i64 acc.length ∧ Aside0 (ARnds base g l (argd (vald n l) l) RR x.deep w wr vk k y acc)) (fun _ v6 _=>4000 - (intOf v6).toNat)
   case atStart=>exact ⟨_,_,_,[],rfl,rfl,HR0⟩
   case round=>
    clear HR0
    obtain ⟨vk,k,y,acc,rfl,rfl,HA⟩:=hrel
    have hX:=HA.out.px
    have hgr:=hX.lt
    have hbr:base ≤ wr.heap.size:=by have:=HA.out.grw.size;omega
    have hal:=HA.out.len
    obtain ⟨A2,c2,-,-,q0,q1,q2,q3,q4,q5,qz⟩:=hX.cells
    obtain ⟨yb,hyb⟩:∃ yb,yb = y.bad:=⟨_,rfl⟩
    rw [← hyb] at q4
    clear q0 q1 q2 q3 q5 hX
    cases yb with
    | true=>
     have HRR:=Aside0.mk (HA.out.out_bad hyb.symm)
     clear hyb
     go_wp2_with fail
     go_ret
     exact ⟨⟨_,rfl,by rw [HRR.out];exact HA.out.row⟩,by rw [HRR.out];exact HA.out.px,HA.out.grw⟩
    | false=>
     by_cases h0:acc = []
     ·have hnt:=HA.out.fst h0 hyb.symm
      have HB:=Aside0.mk (And.intro hyb.symm hnt)
      have hz0:((acc.length:Int) == 0) = true:=by rw [h0];rfl
      have hl0:acc.length = 0:=by rw [h0];rfl
      have HX4:=Aside0.mk HA.out.px
      have HG4:Aside0 (wr.grownBy wr (some g)):=⟨World.grownBy.refl _ _⟩
      have HR4:=Aside0.mk HA.out.row
      have hb4:=hbr
      clear hyb hnt
      obtain ⟨yn,hyn⟩:∃ yn,yn = y.named l:=⟨_,rfl⟩
      have hNA:=pname_any base g l y wr HX4.out HA.out.ok
      rw [← hyn] at hNA
      have HNA:=Aside0.mk hNA
      obtain ⟨nm,y2⟩:=yn
      obtain ⟨y3,hy3⟩:∃ y3,y3 = y2.musted l 7:=⟨_,rfl⟩
      have hfd:fieldd l y = y3:=by unfold fieldd;rw [← hyn,hy3]
      have hok2:y2.ok l:=by have:=HA.out.ok.named (l:=l);rw [← hyn] at this;exact this
      have hok3:y3.ok l:=by rw [← hfd];exact fieldd_ok HA.out.ok
      have hd3:y3.deep = x.deep:=by rw [← hfd,fieldd_deep];exact HA.out.dp HB.out.1
      have HFL:Aside0 (argd (vald n l) l y = (made (nd 9 nm) [(vald n l y3).1],(vald n l y3).2)):=⟨by unfold argd;rw [hfd,← hyn]⟩
      have HMU:=Aside0.mk (fun W (hX:Px W base g l y2)=>must_any base g l y2 7 W hX hok2)
      rw [← hy3] at HMU
      have hlv:(vald n l y3).1.length ≤ 15000:=by
       have q1:=(vald_keeps l n y3 hok3).l1
       have q2:=(vald_keeps l n y3 hok3).ok.a1
       have q3:=hok3.a0
       have q4:=hok3.ll
       omega
      have HIV:=Aside0.mk (fun W (hX:Px W base g l y3) (hb:base ≤ W.heap.size)=>value_any base g l n y3 W hX hok3 (by omega) (by omega) (by omega) hb (by omega))
      obtain ⟨rv,hrv⟩:∃ rv,rv = vald n l y3:=⟨_,rfl⟩
      rw [← hrv] at HFL HIV hlv
      clear hyn hNA hy3 hfd hok2 hok3 hd3 hrv
      go_wp2_with fail
      refine HNA.out.mono ?_
      rintro e w5 ⟨rfl,hX5,hG5⟩
      have HX5:=Aside0.mk hX5
      have HG5:=Aside0.mk (grw_trans HG4.out hG5)
      have HR5:Aside0 (k50.R 50 w5 base (fun _=>True) vk acc.flatten):=⟨HX4.out.keep HR4.out hG5⟩
      have hb5:base ≤ w5.heap.size:=by have:=hG5.size;omega
      clear hX5 hG5
      go_wp2_with fail
      obtain ⟨W5,hW5⟩:∃ W5,W5 = w5.alloc (.cells #[.int .i64 9,.string nm,.string ⟨#[]⟩,.string ⟨#[]⟩,.int .i64 0,.int .i64 0] 50):=⟨_,rfl⟩
      have hE5:W5.heap[w5.heap.size]? = some (.cells #[.int .i64 9,.string nm,.string ⟨#[]⟩,.string ⟨#[]⟩,.int .i64 0,.int .i64 0] 50 (0,0)):=by rw [hW5];exact blk_new _ _
      have hB5:Below w5.heap.size w5 W5:=by rw [hW5];exact below_alloc (Below.refl _ _) _
      rw [← hW5]
      have hgx:w5.heap.size ≠ g:=by have:=HX5.out.lt;omega
      have HE5:=Aside0.mk hE5
      have HB5:=Aside0.mk hB5
      clear hE5 hB5 hW5
      refine (HMU.out _ (HX5.out.below HB5.out)).mono ?_
      rintro e w6 ⟨rfl,hX6,hG6⟩
      have HX6:=Aside0.mk hX6
      have hG56:=grw_trans (grw_below HB5.out) hG6
      have HG6:=Aside0.mk (grw_trans HG5.out hG56)
      have HR6:Aside0 (k50.R 50 w6 base (fun _=>True) vk acc.flatten):=⟨HX5.out.keep HR5.out hG56⟩
      have hE6:w6.heap[w5.heap.size]? = some (.cells #[.int .i64 9,.string nm,.string ⟨#[]⟩,.string ⟨#[]⟩,.int .i64 0,.int .i64 0] 50 (0,0)):=(hG6.block w5.heap.size (blk_lt HE5.out) (fun e=>hgx (by injection e))).trans HE5.out
      have HE6:=Aside0.mk hE6
      have x0:=(blk_cell hE6 0).trans rfl
      have x1:=(blk_cell hE6 1).trans rfl
      have x2:=(blk_cell hE6 2).trans rfl
      have x3:=(blk_cell hE6 3).trans rfl
      have x4:=(blk_cell hE6 4).trans rfl
      have x5:=(blk_cell hE6 5).trans rfl
      have hb6:base ≤ w6.heap.size:=by have:=hG6.size;have:=HB5.out.size;omega
      have hbx6:=blk_lt hE6
      have hmd:(made (nd 9 nm) [rv.1]).length ≤ 15001:=by rw [made_len];simp;omega
      have hl72:(acc.flatten.length + (made (nd 9 nm) [rv.1]).length) * 72 ≤ 140737488355328:=by have:=HA.out.fl;omega
      have HL72:=Aside0.mk hl72
      clear hX6 hG6 hG56 hE6 hl72 hmd
      go_wp2_with fail
      go_region_law (first
       | (refine R_append_rows_step k50 (Rr:=k50.K w8) base rfl (.tmp 34) (.tmp 40) 41 50 _ 72 rfl Tryz.underlying41 info50 rfl (by decide) (by decide) vk acc.flatten (made (nd 9 nm) [rv.1]) A8 (made (nd 9 nm) [rv.1]).length c8 (fun _=>True) (fun _=>False) (by simp [Act.eval,Act.put]) (by simp [Act.eval,Act.put]) HK8.out HC8.out (fun x cs h=>(k50_open h) ▸ k50_mkM _ _ _ _) (fun _ hk=>hk.elim) (fun _ _=>trivial) hb8 HL72.out ?_;intro v9 w9 hR9 hg9 hat9;have HN:=Aside0.mk (HA.out.more HB.out.1 HB.out.2 HKV.out HFLN.out (by rw [HFL.out];exact HX8.out) (grw_trans HA.out.grw HG8.out) (by rw [HFL.out];exact hR9) (Kd.R_typed HK8.out) hg9 hat9);rw [HFL.out] at HN;clear hR9 hg9 hat9)
       | (go_simp;go_at_call 45;refine (HIV.out _ (HX6.out.below (below_drew (Below.refl _ _))) hb6).mono ?_;rintro e w7 ⟨⟨v7,rfl,hR7⟩,hX7,hG7⟩;have hE7:=(hG7.block w5.heap.size (blk_lt HE6.out) (fun e=>hgx (by injection e))).trans (blk_below HE6.out (below_drew (Below.refl _ _)));have HX7:=Aside0.mk hX7;have HG7:=Aside0.mk (grw_trans HG6.out (grw_trans (grw_below (below_drew (Below.refl _ _))) hG7));have z0:=(blk_cell hE7 0).trans rfl;have z1:=(blk_cell hE7 1).trans rfl;have z2:=(blk_cell hE7 2).trans rfl;have z3:=(blk_cell hE7 3).trans rfl;have z4:=(blk_cell hE7 4).trans rfl;have z5:=(blk_cell hE7 5).trans rfl;have HR7:=Aside0.mk hR7;have HK7:Aside0 (k50.R 50 w7 base (fun _=>True) vk acc.flatten):=Aside0.mk ((HX6.out.below (below_drew (Below.refl _ _))).keep (Kd.R_below HR6.out (below_drew (Below.refl _ _))) hG7);have hb7:base ≤ w7.heap.size:=Nat.le_trans hb6 hG7.size;have hbx7:=blk_lt hE7;obtain ⟨A7,c7,rfl,-,-⟩:=Kd.R_reads hR7;clear hR7 hX7 hG7 hE7)
       | (go_simp;go_at_call 30;refine (made_any (nd 9 nm) [rv.1] (some ⟨w7.heap.size,0,none⟩) 1 _ (kids_one HR7.out) (by simp;omega) (by simp)).mono ?_;rintro e w8 ⟨⟨v8,rfl,hR8⟩,hB8⟩;have hB8':Below w7.heap.size w7 w8:=(below_alloc (Below.refl _ _) _).trans (hB8.mono (by simp));have HX8:=Aside0.mk (HX7.out.below hB8');have HG8:=Aside0.mk (grw_trans HG7.out (grw_below hB8'));have HK8:=Aside0.mk (Kd.R_below HK7.out hB8');have hb8:base ≤ w8.heap.size:=Nat.le_trans hb7 hB8'.size;obtain ⟨A8,c8,rfl,-,hC8⟩:=Kd.R_reads hR8;have HC8:=Aside0.mk (row50 hC8);clear hR8 hB8 hB8' hC8))
      all_goals
       go_wp2_with fail
       go_roundw
       case rel=>exact ⟨_,_,_,acc ++ [made (nd 9 nm) [rv.1]],rfl,by first | (rw [h0];rfl) | (rw [List.length_append,List.length_singleton];go_num),HN⟩
       case measure=>simp [intOf];omega
     ·have hz0:((acc.length:Int) == 0) = false:=by
       cases acc with
       | nil=>exact absurd rfl h0
       | cons a as1=>simp;omega
      have HT:=Aside0.mk (taken_any base g l y 5 wr HA.out.px HA.out.ok)
      obtain ⟨bt,hbt⟩:∃ bt,bt = y.takes l 5:=⟨_,rfl⟩
      rw [← hbt] at HT
      cases bt with
      | true=>
       have HRR:=Aside0.mk (HA.out.out_take hyb.symm hbt.symm)
       clear hyb hbt
       go_wp2_with fail
       refine HT.out.mono ?_
       rintro e w4 ⟨rfl,hX4,hG4⟩
       have HX4:=Aside0.mk hX4
       have HR4:=Aside0.mk (HA.out.px.keep HA.out.row hG4)
       have HG4:=Aside0.mk (grw_trans HA.out.grw hG4)
       clear hX4 hG4
       go_wp2_with fail
       go_ret
       exact ⟨⟨_,rfl,by rw [HRR.out];exact HR4.out⟩,by rw [HRR.out];exact HX4.out,HG4.out⟩
      | false=>
       have htk:y.took l 5 = y:=by unfold PS.took;rw [if_neg (by rw [← hbt];decide)]
       rw [htk] at HT
       have HB:=Aside0.mk (And.intro hyb.symm hbt.symm)
       clear hyb hbt htk
       go_wp2_with fail
       refine HT.out.mono ?_
       rintro e w4 ⟨rfl,hX4,hG4⟩
       have HX4:=Aside0.mk hX4
       have HG4:=Aside0.mk hG4
       have HR4:=Aside0.mk (HA.out.px.keep HA.out.row hG4)
       have hb4:base ≤ w4.heap.size:=by have:=hG4.size;omega
       clear hX4 hG4
       obtain ⟨yn,hyn⟩:∃ yn,yn = y.named l:=⟨_,rfl⟩
       have hNA:=pname_any base g l y w4 HX4.out HA.out.ok
       rw [← hyn] at hNA
       have HNA:=Aside0.mk hNA
       obtain ⟨nm,y2⟩:=yn
       obtain ⟨y3,hy3⟩:∃ y3,y3 = y2.musted l 7:=⟨_,rfl⟩
       have hfd:fieldd l y = y3:=by unfold fieldd;rw [← hyn,hy3]
       have hok2:y2.ok l:=by have:=HA.out.ok.named (l:=l);rw [← hyn] at this;exact this
       have hok3:y3.ok l:=by rw [← hfd];exact fieldd_ok HA.out.ok
       have hd3:y3.deep = x.deep:=by rw [← hfd,fieldd_deep];exact HA.out.dp HB.out.1
       have HFL:Aside0 (argd (vald n l) l y = (made (nd 9 nm) [(vald n l y3).1],(vald n l y3).2)):=⟨by unfold argd;rw [hfd,← hyn]⟩
       have HMU:=Aside0.mk (fun W (hX:Px W base g l y2)=>must_any base g l y2 7 W hX hok2)
       rw [← hy3] at HMU
       have hlv:(vald n l y3).1.length ≤ 15000:=by
        have q1:=(vald_keeps l n y3 hok3).l1
        have q2:=(vald_keeps l n y3 hok3).ok.a1
        have q3:=hok3.a0
        have q4:=hok3.ll
        omega
       have HIV:=Aside0.mk (fun W (hX:Px W base g l y3) (hb:base ≤ W.heap.size)=>value_any base g l n y3 W hX hok3 (by omega) (by omega) (by omega) hb (by omega))
       obtain ⟨rv,hrv⟩:∃ rv,rv = vald n l y3:=⟨_,rfl⟩
       rw [← hrv] at HFL HIV hlv
       clear hyn hNA hy3 hfd hok2 hok3 hd3 hrv
       go_wp2_with fail
       refine HNA.out.mono ?_
       rintro e w5 ⟨rfl,hX5,hG5⟩
       have HX5:=Aside0.mk hX5
       have HG5:=Aside0.mk (grw_trans HG4.out hG5)
       have HR5:Aside0 (k50.R 50 w5 base (fun _=>True) vk acc.flatten):=⟨HX4.out.keep HR4.out hG5⟩
       have hb5:base ≤ w5.heap.size:=by have:=hG5.size;omega
       clear hX5 hG5
       go_wp2_with fail
       obtain ⟨W5,hW5⟩:∃ W5,W5 = w5.alloc (.cells #[.int .i64 9,.string nm,.string ⟨#[]⟩,.string ⟨#[]⟩,.int .i64 0,.int .i64 0] 50):=⟨_,rfl⟩
       have hE5:W5.heap[w5.heap.size]? = some (.cells #[.int .i64 9,.string nm,.string ⟨#[]⟩,.string ⟨#[]⟩,.int .i64 0,.int .i64 0] 50 (0,0)):=by rw [hW5];exact blk_new _ _
       have hB5:Below w5.heap.size w5 W5:=by rw [hW5];exact below_alloc (Below.refl _ _) _
       rw [← hW5]
       have hgx:w5.heap.size ≠ g:=by have:=HX5.out.lt;omega
       have HE5:=Aside0.mk hE5
       have HB5:=Aside0.mk hB5
       clear hE5 hB5 hW5
       refine (HMU.out _ (HX5.out.below HB5.out)).mono ?_
       rintro e w6 ⟨rfl,hX6,hG6⟩
       have HX6:=Aside0.mk hX6
       have hG56:=grw_trans (grw_below HB5.out) hG6
       have HG6:=Aside0.mk (grw_trans HG5.out hG56)
       have HR6:Aside0 (k50.R 50 w6 base (fun _=>True) vk acc.flatten):=⟨HX5.out.keep HR5.out hG56⟩
       have hE6:w6.heap[w5.heap.size]? = some (.cells #[.int .i64 9,.string nm,.string ⟨#[]⟩,.string ⟨#[]⟩,.int .i64 0,.int .i64 0] 50 (0,0)):=(hG6.block w5.heap.size (blk_lt HE5.out) (fun e=>hgx (by injection e))).trans HE5.out
       have HE6:=Aside0.mk hE6
       have x0:=(blk_cell hE6 0).trans rfl
       have x1:=(blk_cell hE6 1).trans rfl
       have x2:=(blk_cell hE6 2).trans rfl
       have x3:=(blk_cell hE6 3).trans rfl
       have x4:=(blk_cell hE6 4).trans rfl
       have x5:=(blk_cell hE6 5).trans rfl
       have hb6:base ≤ w6.heap.size:=by have:=hG6.size;have:=HB5.out.size;omega
       have hbx6:=blk_lt hE6
       have hmd:(made (nd 9 nm) [rv.1]).length ≤ 15001:=by rw [made_len];simp;omega
       have hl72:(acc.flatten.length + (made (nd 9 nm) [rv.1]).length) * 72 ≤ 140737488355328:=by have:=HA.out.fl;omega
       have HL72:=Aside0.mk hl72
       clear hX6 hG6 hG56 hE6 hl72 hmd
       go_wp2_with fail
       go_region_law (first
        | (refine R_append_rows_step k50 (Rr:=k50.K w8) base rfl (.tmp 34) (.tmp 40) 41 50 _ 72 rfl Tryz.underlying41 info50 rfl (by decide) (by decide) vk acc.flatten (made (nd 9 nm) [rv.1]) A8 (made (nd 9 nm) [rv.1]).length c8 (fun _=>True) (fun _=>False) (by simp [Act.eval,Act.put]) (by simp [Act.eval,Act.put]) HK8.out HC8.out (fun x cs h=>(k50_open h) ▸ k50_mkM _ _ _ _) (fun _ hk=>hk.elim) (fun _ _=>trivial) hb8 HL72.out ?_;intro v9 w9 hR9 hg9 hat9;have HN:=Aside0.mk (HA.out.more HB.out.1 HB.out.2 HKV.out HFLN.out (by rw [HFL.out];exact HX8.out) (grw_trans HA.out.grw HG8.out) (by rw [HFL.out];exact hR9) (Kd.R_typed HK8.out) hg9 hat9);rw [HFL.out] at HN;clear hR9 hg9 hat9)
        | (go_simp;go_at_call 45;refine (HIV.out _ (HX6.out.below (below_drew (Below.refl _ _))) hb6).mono ?_;rintro e w7 ⟨⟨v7,rfl,hR7⟩,hX7,hG7⟩;have hE7:=(hG7.block w5.heap.size (blk_lt HE6.out) (fun e=>hgx (by injection e))).trans (blk_below HE6.out (below_drew (Below.refl _ _)));have HX7:=Aside0.mk hX7;have HG7:=Aside0.mk (grw_trans HG6.out (grw_trans (grw_below (below_drew (Below.refl _ _))) hG7));have z0:=(blk_cell hE7 0).trans rfl;have z1:=(blk_cell hE7 1).trans rfl;have z2:=(blk_cell hE7 2).trans rfl;have z3:=(blk_cell hE7 3).trans rfl;have z4:=(blk_cell hE7 4).trans rfl;have z5:=(blk_cell hE7 5).trans rfl;have HR7:=Aside0.mk hR7;have HK7:Aside0 (k50.R 50 w7 base (fun _=>True) vk acc.flatten):=Aside0.mk ((HX6.out.below (below_drew (Below.refl _ _))).keep (Kd.R_below HR6.out (below_drew (Below.refl _ _))) hG7);have hb7:base ≤ w7.heap.size:=Nat.le_trans hb6 hG7.size;have hbx7:=blk_lt hE7;obtain ⟨A7,c7,rfl,-,-⟩:=Kd.R_reads hR7;clear hR7 hX7 hG7 hE7)
        | (go_simp;go_at_call 30;refine (made_any (nd 9 nm) [rv.1] (some ⟨w7.heap.size,0,none⟩) 1 _ (kids_one HR7.out) (by simp;omega) (by simp)).mono ?_;rintro e w8 ⟨⟨v8,rfl,hR8⟩,hB8⟩;have hB8':Below w7.heap.size w7 w8:=(below_alloc (Below.refl _ _) _).trans (hB8.mono (by simp));have HX8:=Aside0.mk (HX7.out.below hB8');have HG8:=Aside0.mk (grw_trans HG7.out (grw_below hB8'));have HK8:=Aside0.mk (Kd.R_below HK7.out hB8');have hb8:base ≤ w8.heap.size:=Nat.le_trans hb7 hB8'.size;obtain ⟨A8,c8,rfl,-,hC8⟩:=Kd.R_reads hR8;have HC8:=Aside0.mk (row50 hC8);clear hR8 hB8 hB8' hC8))
       all_goals
        go_wp2_with fail
        go_roundw
        case rel=>exact ⟨_,_,_,acc ++ [made (nd 9 nm) [rv.1]],rfl,by first | (rw [h0];rfl) | (rw [List.length_append,List.length_singleton];go_num),HN⟩
        case measure=>simp [intOf];omega
end Go.Proofs.YtbobbognjmofdaaGreatDoor.Lex
end
section
namespace Go.Proofs.YtbobbognjmofdaaGreatDoor.Lex
open Go.RowKit Go.Proofs.YtbobbognjmofdaaGreatDoorW.PrintWords Go.Proofs.YtbobbognjmofdaaGreatDoorW.PrintLast Go.Proofs.YtbobbognjmofdaaGreatDoorW.PrintMore
open Go.Proofs.YtbobbognjmofdaaGreatDoor.Ptext
set_option linter.unusedVariables false
set_option linter.unusedSimpArgs false
def ArgAt (W:World) (ok:Nat → Prop) (p:Nat) (n:ByteArray) (v:Nat × Nat):Prop:=
 ok p ∧ ∃ k x q,W.heap[p]? = some (.cells #[.string k,ptr q,ptr x,.iface v.1 (ptr v.2)] 171 (0,0)) ∧ (ok x ∧ NameAt W x n) ∧ (ok q ∧ LocAt W q)
theorem Mv.arg {W W1:World} {ok ok1:Nat → Prop} (hm:Mv W W1 ok ok1) {p:Nat} {n:ByteArray} {v:Nat × Nat} (h:ArgAt W ok p n v):ArgAt W1 ok1 p n v:=by
 obtain ⟨h0,k,x,q,h1,⟨hx,hN⟩,hq,hL⟩:=h
 obtain ⟨g0,g1⟩:=hm p _ _ h0 h1 (by decide)
 exact ⟨g0,k,x,q,g1,hm.name hx hN,hm.loc hq hL⟩
def kArg (enc:Nat → Value) (h1:∀ p,(enc p).oneCell' = true):Kd (List S50) where
 sz:=1
 E:=TS
 K:=fun w ns cs=>∃ p n v ns',cs = [enc p] ∧ ns = made (nd 9 n) [ns'] ∧ ArgAt w (fun _=>True) p n v ∧ RepV w (fun _=>True) ns' v.1 v.2
 M:=fun w base ok ns cs=>∃ p n v ns',cs = [enc p] ∧ ns = made (nd 9 n) [ns'] ∧ ArgAt w (fun k=>ok k ∧ base ≤ k) p n v ∧ RepV w (fun k=>ok k ∧ base ≤ k) ns' v.1 v.2
 K_len:=by rintro w x cs ⟨p,n,v,ns',rfl,-⟩;rfl
 K_one:=by rintro w x cs ⟨p,n,v,ns',rfl,-⟩ u hu;rw [List.mem_singleton.1 hu];exact h1 p
 K_below:=by rintro w w1 x cs hb ⟨p,n,v,ns',rfl,he,hf,h⟩;exact ⟨p,n,v,ns',rfl,he,(Mv.of_below hb).arg hf,h.step (Mv.of_below hb)⟩
 K_of_M:=by rintro w base ok x cs ⟨p,n,v,ns',rfl,he,hf,h⟩;exact ⟨p,n,v,ns',rfl,he,(Mv.mono fun _ _=>trivial).arg hf,h.step (Mv.mono fun _ _=>trivial)⟩
 M_mono:=by rintro w base ok ok' x cs hok ⟨p,n,v,ns',rfl,he,hf,h⟩;exact ⟨p,n,v,ns',rfl,he,(Mv.mono fun k hk=>⟨hok k hk.1,hk.2⟩).arg hf,h.step (Mv.mono fun k hk=>⟨hok k hk.1,hk.2⟩)⟩
 M_bound:=by
  rintro w base ok x cs ⟨p,n,v,ns',rfl,he,hf,h⟩
  have hm:Mv w w (fun k=>ok k ∧ base ≤ k) (fun k=>(ok k ∧ base ≤ k ∧ k < w.heap.size ∧ ∃ q,q ∈ TS ∧ ∃ cells,w.heap[k]? = some (.cells cells q (0,0))) ∧ base ≤ k):=fun k T cs h0 h1 hT=>⟨⟨⟨h0.1,h0.2,blk_lt h1,T,hT,cs,h1⟩,h0.2⟩,h1⟩
  exact ⟨p,n,v,ns',rfl,he,hm.arg hf,h.step hm⟩
 M_move:=by
  rintro w w1 base ok x cs hm ⟨p,n,v,ns',rfl,he,hf,h⟩
  have hm:Mv w w1 (fun k=>ok k ∧ base ≤ k) (fun k=>ok k ∧ base ≤ k):=Mv.of_heap fun k h0 _=>⟨h0,hm k h0.1⟩
  exact ⟨p,n,v,ns',rfl,he,hm.arg hf,h.step hm⟩
 M_lower:=by rintro w base base' ok x cs hb ⟨p,n,v,ns',rfl,he,hf,h⟩;exact ⟨p,n,v,ns',rfl,he,(Mv.mono fun k hk=>⟨hk.1,Nat.le_trans hb hk.2⟩).arg hf,h.step (Mv.mono fun k hk=>⟨hk.1,Nat.le_trans hb hk.2⟩)⟩
def kAI:Kd (List S50):=kArg (fun p=>.iface 169 (ptr p)) (fun _=>rfl)
def kAP:Kd (List S50):=kArg (fun p=>ptr p) (fun _=>rfl)
theorem kAI_E:∀ q,q ∈ 20 :: kAI.E → q ≠ 125 ∧ q ≠ 3:=by
 have:∀ q,q ∈ 20 :: TS → q ≠ 125 ∧ q ≠ 3:=by decide
 exact this
theorem info169:(Tryz.prog.info? 169).map (fun i=>(i.zero,i.size,i.bytes)) = some (some (.pointer none),1,8):=by kernel_rfl
theorem run_assert_same {P:Program} {t e:TypeId} (hu:P.underlying t = some (.pointer e)) (v:Value) (xT:TypeId) (w:World):(Instr.typeAssert (.iface t v) xT t false).run P w = .ok v w:=by
 simp [Instr.typeAssert,run_underlying hu]
set_option maxHeartbeats 4000000 in
theorem parseArg_at {E:PE} {l:List S24} {bad:Bool} (C:Ctx E l bad) (g:Nat → Option (List S50 × Nat)) (W1 w:World) {i:Nat} {t:S24} (pe:Int) (h:Pk E W1 w t pe) (hat:At E.s l bad i t)
  (HV:∀ (W:World) (j:Nat) (t':S24) (pe':Int),Pk E W1 W t' pe' → At E.s l bad j t' → i < j → Calls Tryz.prog 83 #[ptr E.P,.bool false] W fun e w'=>ValP E W1 l bad W.heap.size (g j) e w' ∧ Adv E W w') :
  Calls Tryz.prog 134 #[ptr E.P] w fun e w'=>ItemP kAI E W1 l bad w.heap.size (pfield 9 g l bad i) e w' ∧ Adv E w w':=by
 have HN:=Aside0.mk (name_at C W1 w pe h hat)
 have c6:=(blk_cell h.parser 6).trans rfl
 obtain ⟨RR,hRR⟩:∃ RR,RR = pfield 9 g l bad i:=⟨_,rfl⟩
 rw [← hRR]
 have HRD:Aside0 (kd l i = 15 → rd_T24 l i = t):=⟨fun e=>hat.rd (kd_in (by rw [e];decide))⟩
 have HEX:=Aside0.mk (fun W j t' pe' (hp:Pk E W1 W t' pe') (ha:At E.s l bad j t')=>expect_at C W1 W pe' 7 hp ha (by decide))
 have HVV:=Aside0.mk HV
 obtain ⟨o,ho⟩:∃ o,o = (if kd l i = 15 then pnext l bad i else none):=⟨_,rfl⟩
 rw [← ho] at HN
 have HRR:=Aside0.mk (And.intro hRR ho)
 clear h hat C HV hRR ho
 obtain ⟨t0,t1,t2,t3⟩:=t
 go_enter Tryz.func134,Tryz.ntmps134
 go_wp2_with fail
 refine HN.out.mono ?_
 rintro e w2 ⟨h2,ad2⟩
 have HA2:=Aside0.mk ad2
 have hz2:w.heap.size ≤ w2.heap.size:=ad2.size
 clear ad2
 cases o with
 | none=>
  obtain ⟨q,rfl⟩:=h2
  go_wp2_with fail
  go_ret2
  exact ⟨by rw [HRR.out.1,pfield_no HRR.out.2.symm];exact ⟨_,q,rfl,.inl rfl⟩,HA2.out⟩
 | some j=>
  obtain ⟨⟨rn,rfl,hrn,hnm⟩,t',hat',hp⟩:=h2
  obtain ⟨hpf,hk15,hij⟩:=pfield_yes (q:=9) (g:=g) HRR.out.2.symm
  have hE:=HEX.out w2 j t' t3 hp hat'
  obtain ⟨o2,ho2⟩:∃ o2,o2 = (if kd l (j:Int) = 7 then pnext l bad j else none):=⟨_,rfl⟩
  rw [← ho2] at hE hpf
  have hjo:∀ m,o2 = some m → j < m:=fun m e=>by
   rw [e] at ho2
   split at ho2
   ·have:=(pnext_some ho2.symm).1;omega
   ·cases ho2
  have hrd:(rd_T24 l i).f1 = t1:=by rw [HRD.out hk15]
  rw [hrd] at hpf
  have HE:=Aside0.mk hE
  have HF:=Aside0.mk (HRR.out.1.trans hpf)
  have HNM:=Aside0.mk (And.intro hrn hnm)
  have HPP:=Aside0.mk hp
  have HJO:=Aside0.mk hjo
  clear hrn hnm hat' hp hpf hk15 hE ho2 hrd hjo HRR HRD
  go_wp2_with fail
  refine HE.out.mono ?_
  rintro e w3 ⟨h3,ad3⟩
  have HA3:=Aside0.mk (HA2.out.trans ad3)
  have hz3:w2.heap.size ≤ w3.heap.size:=ad3.size
  have hnm3:NameAt w3 rn t1:=by
   obtain ⟨k,u,hh⟩:=HNM.out.2
   exact ⟨k,u,ad3.typed HPP.out hh (by decide) (by decide)⟩
  have HNM3:=Aside0.mk hnm3
  clear ad3 hnm3
  cases o2 with
  | none=>
   obtain ⟨q,rfl⟩:=h3
   go_wp2_with fail
   go_ret2
   exact ⟨by rw [HF.out];exact ⟨_,q,rfl,.inl rfl⟩,HA3.out⟩
  | some m=>
   obtain ⟨rfl,t'',hat2,hp2⟩:=h3
   have hjm:=HJO.out m rfl
   have HVC:=Aside0.mk (HVV.out w3 m t'' t'.f3 hp2 hat2 (by omega))
   obtain ⟨gm,hgm⟩:∃ gm,gm = g m:=⟨_,rfl⟩
   rw [← hgm] at HVC
   have HF2:Aside0 (RR = fstep1 9 t1 gm):=⟨by rw [HF.out,hgm];rfl⟩
   have HP2:=Aside0.mk hp2
   clear hat2 hp2 hgm
   go_wp2_with fail
   refine HVC.out.mono ?_
   rintro e w4 ⟨h4,ad4⟩
   have HA4:=Aside0.mk (HA3.out.trans ad4)
   have hz4:w3.heap.size ≤ w4.heap.size:=ad4.size
   have HNM4:Aside0 (NameAt w4 rn t1):=⟨by
    obtain ⟨k,u,hh⟩:=HNM3.out
    exact ⟨k,u,ad4.typed HP2.out hh (by decide) (by decide)⟩⟩
   clear ad4
   cases gm with
   | none=>
    obtain ⟨v,q,rfl,hv⟩:=h4
    have HF3:Aside0 (RR = none):=⟨HF2.out⟩
    rcases hv with rfl | ⟨T,rfl⟩
    all_goals
     go_wp2_with fail
     go_ret2
     exact ⟨by rw [HF3.out];exact ⟨_,q,rfl,.inl rfl⟩,HA4.out⟩
   | some r=>
    obtain ⟨I,p,tr,pr,rfl,hrep,hatr,hpr⟩:=h4
    have HREP:=Aside0.mk hrep
    have HATR:=Aside0.mk hatr
    have HPR:=Aside0.mk hpr
    have HF3:Aside0 (RR = some (made (nd 9 t1) [r.1],r.2)):=⟨HF2.out⟩
    clear hrep hatr hpr
    go_wp2_with fail
    refine (loc2_any E W1 w4 tr pr t2 HPR.out).mono ?_
    rintro e w5 ⟨⟨q5,rfl,hq,hq5⟩,hb5⟩
    have HQ5:=Aside0.mk (And.intro hq hq5)
    have HB5:=Aside0.mk hb5
    clear hq hq5 hb5
    go_wp2_with fail
    refine (newArg_any w5.heap.size ⟨#[]⟩ _ _ _ _ (blk_new _ _)).mono ?_
    rintro e w6 ⟨rfl,k6,rfl⟩
    go_wp2_with fail
    go_ret2
    have hz5:w4.heap.size ≤ w5.heap.size:=HB5.out.size
    have hq:=HQ5.out.1
    have hn:=HNM.out.1
    first
    | (
      have hb56:Below w5.heap.size w5 (w5.alloc (.cells #[.string k6,ptr q5,ptr rn,.iface I (ptr p)] 171)):=below_alloc (Below.refl _ _) _
      have hb46:=HB5.out.trans (hb56.mono hz5)
      refine ⟨?_,HA4.out.trans (Adv.of_below hb46)⟩
      rw [HF3.out]
      exact ⟨169,w5.heap.size,tr,pr,rfl,⟨w5.heap.size,t1,(I,p),r.1,rfl,rfl,⟨⟨trivial,by omega⟩,k6,rn,q5,blk_new _ _,⟨⟨trivial,by omega⟩,HNM4.out.below hb46⟩,⟨trivial,by omega⟩,HQ5.out.2.below hb56⟩,HREP.out.step (Mv.of_heap fun k hk hl=>⟨⟨trivial,by have hk:w3.heap.size ≤ k:=hk;omega⟩,hb46.block k hl⟩)⟩,HATR.out,HPR.out.keep hb46⟩)
    | (
      have hb56:∀ ob u,Below w5.heap.size w5 ((w5.alloc ob).setCell ⟨w5.heap.size,0,none⟩ u):=fun ob u=>(below_alloc (Below.refl _ _) _).setCell (Nat.le_refl _) _
      have hb46:=fun ob u=>HB5.out.trans ((hb56 ob u).mono hz5)
      refine ⟨?_,HA4.out.trans (Adv.of_below (hb46 _ _))⟩
      rw [HF3.out]
      exact ⟨169,w5.heap.size,tr,pr,rfl,⟨w5.heap.size,t1,(I,p),r.1,rfl,rfl,⟨⟨trivial,by omega⟩,k6,rn,q5,(blk_set (blk_new _ _) 0 _).trans rfl,⟨⟨trivial,by omega⟩,HNM4.out.below (hb46 _ _)⟩,⟨trivial,by omega⟩,HQ5.out.2.below (hb56 _ _)⟩,HREP.out.step (Mv.of_heap fun k hk hl=>⟨⟨trivial,by have hk:w3.heap.size ≤ k:=hk;omega⟩,(hb46 _ _).block k hl⟩)⟩,HATR.out,HPR.out.keep (hb46 _ _)⟩)
def someOf (o:Option (List (List S50) × Nat)):Option (List (List S50) × Nat):=match o with | none=>none | some r=>if r.1 = [] then none else some r
theorem pargs_4 {l:List S24} {bad:Bool} {n i:Nat} (h:kd l i = 4):pargs l bad n i = someOf (pround 5 (pfield 9 (pval l bad n) l bad) l bad i):=by
 unfold pargs
 rw [if_pos h]
 unfold pround
 cases pnext l bad i with
 | none=>rfl
 | some j=>rfl
set_option maxHeartbeats 400000 in
theorem peek_any (E:PE) (W1 w:World) (t:S24) (pe k:Int) (h:Pk E W1 w t pe):Calls Tryz.prog 132 #[ptr E.P,.int .i64 k] w fun e w'=>e = .returned (.bool (t.f0 == k)) ∧ w = w':=by
 have c5:=(blk_cell h.parser 5).trans rfl
 clear h
 obtain ⟨t0,t1,t2,t3⟩:=t
 go_enter Tryz.func132,Tryz.ntmps132
 go_wp2_with fail
 go_ret
 exact ⟨rfl,rfl⟩
def ArgsP (E:PE) (W1:World) (l:List S24) (bad:Bool) (lo:Nat) (o:Option (List (List S50) × Nat)) (e:Ending) (w':World):Prop:=
 match o with
 | none=>∃ v q,e = .returned (.tuple #[v,.iface 182 (ptr q)])
 | some r=>∃ v t' pe',e = .returned (.tuple #[v,.nilIface]) ∧ kAP.R 169 w' lo (fun _=>True) v r.1 ∧ At E.s l bad r.2 t' ∧ Pk E W1 w' t' pe'
structure CopydA (E:PE) (w W3 wr:World) (lo:Nat) (v20 vk:Value) (nss:List (List S50)) (i:Nat):Prop where
 le:i ≤ nss.length
 row:kAP.R 169 wr w.heap.size (fun _=>True) vk (nss.take i)
 src:kAI.R 20 wr lo (fun k=>k < W3.heap.size) v20 nss
 own:∀ b,vk.ownBlock = some b → b < lo ∨ W3.heap.size ≤ b
 grw:Below w.heap.size W3 wr
set_option maxHeartbeats 4000000 in
theorem parseArgs_at {E:PE} {l:List S24} {bad:Bool} (C:Ctx E l bad) (W1 w:World) {i:Nat} {t:S24} (pe:Int) (n:Nat) (hn:l.length < i + n) (h:Pk E W1 w t pe) (hat:At E.s l bad i t) :
  Calls Tryz.prog 88 #[ptr E.P] w fun e w'=>ArgsP E W1 l bad w.heap.size (pargs l bad n i) e w' ∧ Adv E w w':=by
 have hg:PGoes (pfield 9 (pval l bad n) l bad):=pfield_goes (pval_goes l bad n)
 have HPK:=Aside0.mk (fun W (hb:Below w.heap.size w W)=>peek_any E W1 W t pe 4 (h.keep hb))
 have HP0:E.P < w.heap.size:=blk_lt h.parser
 have HP1:E.pb < w.heap.size:=blk_lt h.place
 have HP2:E.sb < w.heap.size:=blk_lt h.source
 have HP3:W1.heap.size ≤ w.heap.size:=h.below.size
 by_cases h4:t.f0 = 4
 ·have HX:=Aside0.mk (fun W (hb:Below w.heap.size w W)=>reverse_any C kAI rfl kAI_E 134 (.inr rfl) (pfield 9 (pval l bad n) l bad) hg 4 5 (by decide) (by decide) true W1 W pe (h.keep hb) hat h4 (fun W' j t' pe' hp ha hlt=>parseArg_at C (pval l bad n) W1 W' pe' hp ha (fun W2 j2 t2 pe2 hp2 ha2 hlt2=>parseValue_at C W1 n W2 j2 t2 pe2 hp2 ha2 (by omega))))
  rw [pargs_4 (hat.kd.trans h4)]
  obtain ⟨RR,hRR⟩:∃ RR,RR = pround 5 (pfield 9 (pval l bad n) l bad) l bad i:=⟨_,rfl⟩
  have hmany:∀ r,RR = some r → r.1.length ≤ 2000:=fun r e=>Nat.le_trans (pround_len (by decide) hg (hRR.symm.trans e)) C.ll
  rw [← hRR] at HX ⊢
  obtain ⟨R2,hR2⟩:∃ R2,R2 = someOf RR:=⟨_,rfl⟩
  rw [← hR2]
  have HR2:Aside0 ((RR = none → R2 = none) ∧ ∀ r,RR = some r → (r.1 = [] → R2 = none) ∧ (r.1 ≠ [] → R2 = some r)):=⟨fun e=>by rw [hR2,e];rfl,fun r e=>⟨fun e2=>by rw [hR2,e];exact if_pos e2,fun e2=>by rw [hR2,e];exact if_neg e2⟩⟩
  have HMANY:=Aside0.mk hmany
  have hb4:(t.f0 == 4) = true:=by rw [h4];rfl
  rw [hb4] at HPK
  clear h hat C hg hRR hR2 hmany h4 hb4
  go_enter Tryz.func88,Tryz.ntmps88
  go_wp2_with fail
  obtain ⟨Wv,hWv⟩:∃ Wv,Wv = w.alloc (.cells #[] 169):=⟨_,rfl⟩
  have hEv:Wv.heap[w.heap.size]? = some (.cells #[] 169 (0,0)):=by rw [hWv];exact blk_new _ _
  have hBv:Below w.heap.size w Wv:=by rw [hWv];exact below_alloc (Below.refl _ _) _
  have hSv:Wv.heap.size = w.heap.size + 1:=by rw [hWv];simp
  rw [← hWv]
  clear hWv
  have HEv:=Aside0.mk hEv
  have HBv:=Aside0.mk hBv
  clear hEv hBv
  refine (HPK.out Wv HBv.out).mono ?_
  rintro e w2 ⟨rfl,rfl⟩
  go_wp2_with fail
  refine (HX.out Wv HBv.out).mono ?_
  rintro e w3 ⟨h3,ad3⟩
  have HA3:=Aside0.mk ((Adv.of_below HBv.out).trans ad3)
  have HE3:Aside0 (w3.heap[w.heap.size]? = some (.cells #[] 169 (0,0))):=⟨(ad3.block w.heap.size (blk_lt HEv.out) (by omega) (by omega)).trans HEv.out⟩
  have hz3:Wv.heap.size ≤ w3.heap.size:=ad3.size
  clear ad3
  cases RR with
  | none=>
   obtain ⟨v,q,rfl⟩:=h3
   have HNN:=Aside0.mk (HR2.out.1 rfl)
   go_wp2_with fail
   go_ret2
   exact ⟨by rw [HNN.out];exact ⟨_,q,rfl⟩,HA3.out⟩
  | some r=>
   obtain ⟨nss,j2⟩:=r
   rcases h3 with ⟨⟨-,hnil⟩,v,q,rfl⟩ | ⟨hnn,v20,t',pe',rfl,hR,hat',hp⟩
   ·have HNN:=Aside0.mk ((HR2.out.2 _ rfl).1 hnil)
    clear hnil
    go_wp2_with fail
    go_ret2
    exact ⟨by rw [HNN.out];exact ⟨_,q,rfl⟩,HA3.out⟩
   have HSO:=Aside0.mk ((HR2.out.2 _ rfl).2 (fun e=>hnn ⟨rfl,e⟩))
   have hnl:nss.length ≤ 2000:=HMANY.out _ rfl
   have HAT:=Aside0.mk hat'
   have HP:=Aside0.mk hp
   have hC0:CopydA E w w3 w3 Wv.heap.size v20 (.slice (some ⟨w.heap.size,0,none⟩) 0 0) nss 0:=
    ⟨Nat.zero_le _,R_empty kAP HE3.out (Nat.le_refl _),Kd.R_mono (Kd.R_bound hR) (fun k hk=>hk.2.2.1),fun b hb=>.inl (by simp [Value.ownBlock] at hb;omega),Below.refl _ _⟩
   have HC0:=Aside0.mk hC0
   obtain ⟨A20,c20,hv20,-,-⟩:=Kd.R_reads hR
   clear hR hat' hp hC0 hnn HMANY HR2
   subst hv20
   go_wp2_with fail
   go_loopw [4,23] (fun v4 v23 wr=>∃ (vk:Value) (k:Nat),vk = v4 ∧ v23 = .int .i64 k ∧ Aside0 (CopydA E w w3 wr Wv.heap.size (.slice A20 nss.length c20) vk nss k)) (fun _ v23 _=>nss.length - (intOf v23).toNat)
   case atStart=>exact ⟨_,0,rfl,rfl,HC0⟩
   case round=>
    clear HC0
    obtain ⟨vk,k,rfl,rfl,HA⟩:=hrel
    have hle:=HA.out.le
    obtain ⟨Ak,ck',hvk,-,-⟩:=Kd.R_reads HA.out.row
    by_cases hlt:k < nss.length
    ·obtain ⟨ad,c,u,he,hcell,hM⟩:=R_get HA.out.src rfl k hlt
     obtain ⟨p,nm,vv,ns',hu,hmd,harg,hrep⟩:=hM
     obtain rfl:u = .iface 169 (ptr p):=by injection hu
     obtain ⟨rfl,-,-⟩:A20 = some ad ∧ True ∧ True:=by injection he with h1;exact ⟨h1,trivial,trivial⟩
     have hta:=run_assert_same Tryz.underlying169 (ptr p)
     have hzr:w3.heap.size ≤ wr.heap.size:=HA.out.grw.size
     have hb:w.heap.size ≤ wr.heap.size:=by omega
     have hown:=HA.out.own
     have hmv:Mv wr wr (fun k=>(k < w3.heap.size ∧ some k ≠ (Value.slice (some ad) nss.length c20).ownBlock) ∧ Wv.heap.size ≤ k) (fun k=>(True ∧ some k ≠ vk.ownBlock) ∧ w.heap.size ≤ k):=Mv.mono fun q hq=>⟨⟨trivial,fun e=>by
      have h1:=hq.1.1
      have h2:=hq.2
      rcases hown q e.symm with h3 | h3 <;> omega⟩,by have h2:=hq.2;omega⟩
     have HMM:Aside0 (kAP.M wr w.heap.size (fun k=>True ∧ some k ≠ vk.ownBlock) nss[k] [ptr p]):=⟨⟨p,nm,vv,ns',rfl,hmd,hmv.arg harg,hrep.step hmv⟩⟩
     have hl8:((nss.take k).length + 1) * 8 ≤ 140737488355328:=by rw [List.length_take];omega
     have hcl:(nss.take k).length = k:=by rw [List.length_take];omega
     have hin:(k:Int) < (nss.length:Int):=by omega
     have HTK:Aside0 (nss.take (k + 1) = nss.take k ++ [nss[k]]):=⟨List.take_succ_eq_append_getElem hlt⟩
     obtain ⟨xk,hxk⟩:∃ xk,xk = nss[k]:=⟨_,rfl⟩
     rw [← hxk] at HMM HTK
     subst hvk
     clear hu he hrep hxk harg hmd hmv
     go_wp2_with (at_builtin;refine Kd.R_append kAP (w0:=wr) w.heap.size rfl (.tmp 27) (.tmp 30) 103 169 (.pointer none) 8 rfl Tryz.underlying103 info169 rfl (by decide) (by decide) _ (nss.take k) xk [ptr p] (fun _=>True) _ rfl rfl HMM.out (fun _ hk=>hk) (fun _ _=>trivial) HA.out.row (Below.refl _ _) hb hl8 ?_;intro v6 w6 hR6 hB6 hg6 hat6;have HN:Aside0 (CopydA E w w3 w6 Wv.heap.size (.slice (some ad) nss.length c20) v6 nss (k + 1)):=⟨⟨hlt,by rw [HTK.out];exact hR6,Kd.R_mono (Kd.R_step (Kd.R_bound HA.out.src) (fun q hq hl=>hg6.block q hl (fun e=>by rcases hown q e.symm with h3 | h3 <;> have:=hq.1 <;> have:=hq.2.1 <;> omega))) (fun q hq=>hq.1),fun b hb2=>by (rcases hat6 with e | ⟨b',e,hle2⟩;exact hown b (e ▸ hb2);rw [e] at hb2;injection hb2 with hb2;exact .inr (by omega)),HA.out.grw.trans hB6⟩⟩;clear hR6 hB6 hg6 hat6)
     go_roundw
     case rel=>exact ⟨_,k + 1,rfl,by go_num,HN⟩
     case measure=>simp [intOf];omega
    ·obtain rfl:k = nss.length:=by omega
     have hin:¬ ((nss.length:Int) < (nss.length:Int)):=by omega
     have HROW:=Aside0.mk HA.out.row
     have HP4:=Aside0.mk (HP.out.then_below HA.out.grw HP3 HP0 HP1 HP2)
     have HA4:=Aside0.mk (HA3.out.then_below HA.out.grw)
     rw [List.take_length] at HROW hvk
     subst hvk
     clear HA
     go_wp2_with fail
     go_ret2
     exact ⟨by rw [HSO.out];exact ⟨_,t',pe',rfl,HROW.out,HAT.out,HP4.out⟩,HA4.out⟩
 ·have hpa:pargs l bad n i = some ([],i):=by unfold pargs;rw [if_neg (by rw [hat.kd];exact h4)]
  rw [hpa]
  have hb4:(t.f0 == 4) = false:=by simpa using h4
  rw [hb4] at HPK
  have H:=Aside0.mk h
  have HAT:=Aside0.mk hat
  clear h hat C hg hpa h4 hb4
  go_enter Tryz.func88,Tryz.ntmps88
  go_wp2_with fail
  obtain ⟨Wv,hWv⟩:∃ Wv,Wv = w.alloc (.cells #[] 169):=⟨_,rfl⟩
  have hEv:Wv.heap[w.heap.size]? = some (.cells #[] 169 (0,0)):=by rw [hWv];exact blk_new _ _
  have hBv:Below w.heap.size w Wv:=by rw [hWv];exact below_alloc (Below.refl _ _) _
  rw [← hWv]
  clear hWv
  have HEv:=Aside0.mk hEv
  have HBv:=Aside0.mk hBv
  clear hEv hBv
  refine (HPK.out Wv HBv.out).mono ?_
  rintro e w2 ⟨rfl,rfl⟩
  go_wp2_with fail
  go_ret2
  exact ⟨⟨_,t,pe,rfl,R_empty kAP HEv.out (Nat.le_refl _),HAT.out,H.out.keep HBv.out⟩,Adv.of_below HBv.out⟩
end Go.Proofs.YtbobbognjmofdaaGreatDoor.Lex
end
