import Derived.Test.YtbobbognjmofdaaGreatDoorV19
import Derived.Test.YtbobbognjmofdaaGreatDoorV04
import Derived.StillTailTactics
section
namespace Go.Proofs.YtbobbognjmofdaaGreatDoor.Lex
open Go.RowKit Go.Proofs.YtbobbognjmofdaaGreatDoorW.PrintWords Go.Proofs.YtbobbognjmofdaaGreatDoorW.PrintLast Go.Proofs.YtbobbognjmofdaaGreatDoorW.PrintMore
open Go.Proofs.YtbobbognjmofdaaGreatDoor.Ptext
set_option linter.unusedVariables false
set_option linter.unusedSimpArgs false
def S50.flat (x:S50):S50:=if x.f0 = 15 then x else { x with f4:=0 }
theorem flat_two {x y:S50} (h:x.flat = y.flat):x.f0 = y.f0 ∧ x.f1 = y.f1 ∧ x.f2 = y.f2 ∧ x.f3 = y.f3 ∧ (x.f0 = 15 → x.f4 = y.f4) ∧ x.f5 = y.f5:=by
 obtain ⟨x0,x1,x2,x3,x4,x5⟩:=x
 obtain ⟨y0,y1,y2,y3,y4,y5⟩:=y
 unfold S50.flat at h
 dsimp only at h ⊢
 split at h <;> split at h <;> injection h with h0 h1 h2 h3 h4 h5 <;> subst h0 <;> refine ⟨rfl,h1,h2,h3,?_,h5⟩ <;> intro e <;> first | exact h4 | exact absurd e ‹_›
theorem flat_at {xs ys:List S50} (h:xs.map S50.flat = ys.map S50.flat) (i:Int) (hi:i.toNat < xs.length):(rd_T50 xs i).flat = (rd_T50 ys i).flat:=by
 have hl:xs.length = ys.length:=by have:=congrArg List.length h;simpa using this
 have h2:=congrArg (fun l=>l[i.toNat]?) h
 simp only [List.getElem?_map] at h2
 unfold rd_T50
 rw [List.getElem?_eq_getElem hi,List.getElem?_eq_getElem (by omega)] at h2
 simp only [Option.map_some,Option.some.injEq] at h2
 rw [List.getD_eq_getElem?_getD,List.getD_eq_getElem?_getD,List.getElem?_eq_getElem hi,List.getElem?_eq_getElem (by omega)]
 exact h2
set_option maxHeartbeats 2000000 in
theorem sameFlat_any (l m:List S50) (A1 A2:Option Addr) (c1 c2:Nat) (w:World) (h1:Kd.C k50 w A1 l.length l) (h2:Kd.C k50 w A2 m.length m) (hl:l.length ≤ 100000) (hf:l.map S50.flat = m.map S50.flat) :
  Calls Tryz.prog 25 #[.slice A1 l.length c1,.slice A2 m.length c2] w fun e w'=>e = .returned (.bool true) ∧ Below w.heap.size w w':=by
 have hlm:m.length = l.length:=by have:=congrArg List.length hf;simpa using this.symm
 rw [hlm] at h2 ⊢
 have HF:=Aside0.mk hf
 clear hf
 have H1:=Aside0.mk h1
 have H2:=Aside0.mk h2
 clear h1 h2
 go_enter Tryz.func25,Tryz.ntmps25
 go_wp2_with fail
 go_loopw [5] (fun v5 wr=>∃ (i:Int),0 ≤ i ∧ i ≤ l.length ∧ v5 = .int .i64 i ∧ Aside0 (Below w.heap.size w wr)) (fun v5 _=>l.length - (intOf v5).toNat)
 case atStart=>exact ⟨0,Int.le_refl _,by omega,rfl,⟨Below.refl _ _⟩⟩
 case round=>
  obtain ⟨i,hi0,hi1,rfl,HB⟩:=hrel
  by_cases hlt:i < (l.length:Int)
  ·have hltb:decide (i < (l.length:Int)) = true:=decide_eq_true hlt
   obtain ⟨a1,rfl,p0,p1,p2,p3,p4,p5⟩:=at_T50 (Kd.C_below H1.out HB.out) i hi0 hlt
   obtain ⟨a2,rfl,q0,q1,q2,q3,q4,q5⟩:=at_T50 (Kd.C_below H2.out HB.out) i hi0 hlt
   have hin:i.toNat < l.length:=by omega
   have htwo:=flat_two (flat_at HF.out i hin)
   obtain ⟨t,ht⟩:∃ t,t = rd_T50 l i:=⟨_,rfl⟩
   obtain ⟨r,hr⟩:∃ r,r = rd_T50 m i:=⟨_,rfl⟩
   rw [← ht] at p0 p1 p2 p3 p4 p5 htwo
   rw [← hr] at q0 q1 q2 q3 q4 q5 htwo
   clear ht hr
   have hb1:=World.block_lt_of_cell? wr _ p0
   have hb2:=World.block_lt_of_cell? wr _ q0
   obtain ⟨t0,t1,t2,t3,t4,t5⟩:=t
   obtain ⟨r0,r1,r2,r3,r4,r5⟩:=r
   obtain ⟨e0,e1,e2,e3,e4,e5⟩:=htwo
   dsimp only at e0 e1 e2 e3 e4 e5
   subst e0 e1 e2 e3 e5
   by_cases h15:t0 = 15
   ·obtain rfl:=e4 h15
    subst h15
    clear e4
    have hq:=neq50 15 t1 t2 t3 t4 t5
    go_wp2_with fail
    go_region
    all_goals
     go_wp2_with fail
     go_roundw
     case rel=>exact ⟨i + 1,by omega,by omega,rfl,⟨by
      have hz:=HB.out.size
      repeat (first | exact HB.out | refine Below.setCell ?_ (by first | (show w.heap.size ≤ _;omega) | (simp;omega)) _ | refine Below.alloc ?_ (by first | omega | (simp;omega)) _ | apply below_drew1 | apply pw_below_drewN)⟩⟩
     case measure=>simp [intOf];omega
   ·have k15:(t0 != 15) = true:=by simpa using h15
    clear e4
    have hq:=neq50 t0 t1 t2 t3 0 t5
    go_wp2_with fail
    go_region
    all_goals
     go_wp2_with fail
     go_roundw
     case rel=>exact ⟨i + 1,by omega,by omega,rfl,⟨by
      have hz:=HB.out.size
      repeat (first | exact HB.out | refine Below.setCell ?_ (by first | (show w.heap.size ≤ _;omega) | (simp;omega)) _ | refine Below.alloc ?_ (by first | omega | (simp;omega)) _ | apply below_drew1 | apply pw_below_drewN)⟩⟩
     case measure=>simp [intOf];omega
  ·have hltb:decide (i < (l.length:Int)) = false:=decide_eq_false hlt
   go_wp2_with fail
   go_ret
   exact ⟨rfl,HB.out⟩
def pnext (l:List S24) (bad:Bool) (i:Nat):Option Nat:=if i + 1 = l.length ∧ bad = true then none else some (i + 1)
def plist (c:Int) (f:Nat → Option (List S50 × Nat)) (l:List S24) (bad:Bool):Nat → Nat → List (List S50) → Option (List (List S50) × Nat)
 | 0,_,_=>none
 | k + 1,i,acc=>if kd l i = c then (match pnext l bad i with | none=>none | some j=>some (acc,j)) else
   match f i with
   | none=>none
   | some r=>plist c f l bad k r.2 (acc ++ [r.1])
def pfield (q:Int) (f:Nat → Option (List S50 × Nat)) (l:List S24) (bad:Bool) (i:Nat):Option (List S50 × Nat):=
 if kd l i = 15 then
  match pnext l bad i with
  | none=>none
  | some j=>if kd l j = 7 then
    match pnext l bad j with
    | none=>none
    | some m=>(match f m with
     | none=>none
     | some r=>some (made (nd q (rd_T24 l i).f1) [r.1],r.2))
   else none
 else none
def pleaf (x:S50) (o:Option Nat):Option (List S50 × Nat):=match o with | none=>none | some j=>some (made x [],j)
def pval (l:List S24) (bad:Bool):Nat → Nat → Option (List S50 × Nat)
 | 0,_=>none
 | n + 1,i=>
  if kd l i = 10 then
   match pnext l bad i with
   | none=>none
   | some j=>(match plist 11 (pval l bad n) l bad (l.length + 1) j [] with
    | none=>none
    | some r=>some (made (nd 17 ⟨#[]⟩) r.1,r.2))
  else if kd l i = 12 then
   match pnext l bad i with
   | none=>none
   | some j=>(match plist 14 (pfield 19 (pval l bad n) l bad) l bad (l.length + 1) j [] with
    | none=>none
    | some r=>some (made (nd 18 ⟨#[]⟩) r.1,r.2))
  else if kd l i = 16 then pleaf ⟨12,⟨#[]⟩,⟨#[]⟩,(rd_T24 l i).f1,0,0⟩ (pnext l bad i)
  else if kd l i = 17 then pleaf ⟨13,⟨#[]⟩,⟨#[]⟩,(rd_T24 l i).f1,0,0⟩ (pnext l bad i)
  else if kd l i = 18 ∨ kd l i = 19 then pleaf ⟨14,⟨#[]⟩,⟨#[]⟩,(rd_T24 l i).f1,0,0⟩ (pnext l bad i)
  else if kd l i = 15 then
   if (rd_T24 l i).f1 = wTrue then pleaf ⟨15,⟨#[]⟩,⟨#[]⟩,⟨#[]⟩,1,0⟩ (pnext l bad i)
   else if (rd_T24 l i).f1 = wFalse then pleaf ⟨15,⟨#[]⟩,⟨#[]⟩,⟨#[]⟩,0,0⟩ (pnext l bad i)
   else if (rd_T24 l i).f1 = wNull then none
   else pleaf (nd 16 (rd_T24 l i).f1) (pnext l bad i)
  else if kd l i = 3 then
   match pnext l bad i with
   | none=>none
   | some j=>if kd l j = 15 then pleaf (nd 11 (rd_T24 l j).f1) (pnext l bad j) else none
  else none
def Agree (l:List S24) (bad:Bool) (r:List S50 × PS) (o:Option (List S50 × Nat)):Prop:=
 match o with
 | none=>Refd l bad r.2
 | some q=>r.2.bad = false ∧ r.1.map S50.flat = q.1.map S50.flat ∧ r.2.at_ = q.2
def AgreeL (l:List S24) (bad:Bool) (r:List (List S50) × PS) (o:Option (List (List S50) × Nat)):Prop:=
 match o with
 | none=>Refd l bad r.2
 | some q=>r.2.bad = false ∧ r.1.map (·.map S50.flat) = q.1.map (·.map S50.flat) ∧ r.2.at_ = q.2
theorem kd_out {l:List S24} {i:Nat} (h:¬ i < l.length):kd l i = 1:=by unfold kd;rw [if_neg (by omega)]
theorem kd_in {l:List S24} {i:Nat} (h:kd l i ≠ 1):i < l.length:=by
 by_cases hl:i < l.length
 ·exact hl
 ·exact absurd (kd_out hl) h
theorem pnext_none {l:List S24} {bad:Bool} {i:Nat} (h:pnext l bad i = none):i + 1 = l.length ∧ bad = true:=by
 unfold pnext at h
 split at h
 ·assumption
 ·cases h
theorem pnext_some {l:List S24} {bad:Bool} {i j:Nat} (h:pnext l bad i = some j):j = i + 1 ∧ ¬ (i + 1 = l.length ∧ bad = true):=by
 unfold pnext at h
 split at h
 ·cases h
 ·rename_i hn
  injection h with h
  exact ⟨h.symm,hn⟩
theorem flat_len {xs ys:List S50} (h:xs.map S50.flat = ys.map S50.flat):xs.length = ys.length:=by
 have:=congrArg List.length h
 simpa using this
theorem flat_flatten {xs ys:List (List S50)} (h:xs.map (·.map S50.flat) = ys.map (·.map S50.flat)):xs.flatten.map S50.flat = ys.flatten.map S50.flat:=by
 rw [List.map_flatten,List.map_flatten,h]
theorem flat_made {n m:S50} {xs ys:List (List S50)} (hn:∀ k,S50.flat { n with f5:=k } = S50.flat { m with f5:=k }) (h:xs.map (·.map S50.flat) = ys.map (·.map S50.flat)):(made n xs).map S50.flat = (made m ys).map S50.flat:=by
 have hf:=flat_flatten h
 unfold made
 rw [List.map_cons,List.map_cons,hf,flat_len hf,hn]
theorem PS.takes_eq {l:List S24} {x:PS} {i:Nat} (hb:x.bad = false) (ha:x.at_ = i) (c:Int):x.takes l c = (kd l i == c):=by
 unfold PS.takes
 rw [hb,ha]
 rfl
theorem PS.ok_at {l:List S24} {x:PS} {i:Nat} (hl:l.length ≤ 3000) (ha:x.at_ = i) (hi:i ≤ l.length):x.ok l:=⟨by rw [ha];omega,by rw [ha];omega,hl⟩
theorem PS.next_at {x:PS} {i:Nat} (ha:x.at_ = i):x.next.at_ = (i + 1:Nat):=by show x.at_ + 1 = _;rw [ha];omega
theorem loop_agree {c:Int} (hc:c ≠ 1) {f:PS → List S50 × PS} {g:Nat → Option (List S50 × Nat)} {l:List S24} {bad:Bool} {n B:Nat} (hl:l.length ≤ 3000) (hv:∀ x:PS,x.ok l → Keeps l n B x (f x)) (D:Int) (hd:∀ x:PS,x.ok l → (f x).2.bad = false → (f x).2.deep = x.deep)
  (lo:Nat) (hf:∀ (y:PS) (j:Nat),y.bad = false → y.at_ = j → j ≤ l.length → lo ≤ j → y.deep = D → (f y).2.unsure = false → Agree l bad (f y) (g j)) (hend:∀ j,¬ j < l.length → g j = none) :
  ∀ (k m:Nat) (y:PS) (j:Nat) (acc acc':List (List S50)),y.bad = false → y.at_ = j → j ≤ l.length → lo ≤ j → y.deep = D → l.length < j + k → l.length < j + m → acc.map (·.map S50.flat) = acc'.map (·.map S50.flat) → (loopd c f l k y acc).2.unsure = false →
   AgreeL l bad (loopd c f l k y acc) (plist c g l bad m j acc')
 | 0,m,y,j,acc,acc',hb,ha,hj,hlo,hD,hk,hm,he,hu=>by omega
 | k + 1,0,y,j,acc,acc',hb,ha,hj,hlo,hD,hk,hm,he,hu=>by omega
 | k + 1,m + 1,y,j,acc,acc',hb,ha,hj,hlo,hD,hk,hm,he,hu=>by
  rw [loopd,if_neg (by rw [hb];decide),PS.takes_eq hb ha] at hu ⊢
  rw [plist]
  by_cases hc1:kd l j = c
  ·rw [if_pos hc1]
   rw [if_pos (by rw [hc1];simp)] at hu ⊢
   have hjl:=kd_in (l:=l) (i:=j) (by rw [hc1];exact hc)
   cases hp:pnext l bad j with
   | none=>
    obtain ⟨h1,h2⟩:=pnext_none hp
    exact .inr ⟨h2,by show y.at_ + 1 = _;rw [ha];omega⟩
   | some j'=>
    obtain ⟨rfl,-⟩:=pnext_some hp
    exact ⟨hb,he,PS.next_at ha⟩
  ·rw [if_neg hc1]
   rw [if_neg (by simpa using hc1)] at hu ⊢
   have hok:=PS.ok_at (x:=y) hl ha hj
   have hK:=hv y hok
   have hDf:=hd y hok
   obtain ⟨r,hr⟩:∃ r,r = f y:=⟨_,rfl⟩
   have hru:r.2.unsure = false:=by
    cases hq:r.2.unsure with
    | false=>rfl
    | true=>
     exfalso
     rw [← hr] at hu hK
     have h3:(loopd c f l k r.2 (acc ++ [r.1])).2.unsure = true:=by
      cases hrb:r.2.bad with
      | true=>
       have hz:loopd c f l k r.2 (acc ++ [r.1]) = (acc ++ [r.1],r.2):=by
        cases k with
        | zero=>rfl
        | succ k=>rw [loopd,if_pos hrb]
       rw [hz];exact hq
      | false=>
       have hon:y.at_ < r.2.at_:=by rcases hK.on with h | h;exact h;rw [hrb] at h;cases h
       exact (loopd_keeps hc hv k r.2 (acc ++ [r.1]) hK.ok (by omega)).uns hq
     rw [h3] at hu;cases hu
   have hA:=hf y j hb ha hj hlo hD (by rw [← hr];exact hru)
   rw [← hr] at hA hK hu hDf ⊢
   cases hg:g j with
   | none=>
    rw [hg] at hA
    have hA:Refd l bad r.2:=hA
    show Refd l bad (loopd c f l k r.2 (acc ++ [r.1])).2
    rcases hA with h | ⟨h1,h2⟩
    ·have hz:loopd c f l k r.2 (acc ++ [r.1]) = (acc ++ [r.1],r.2):=by
      cases k with
      | zero=>rfl
      | succ k=>rw [loopd,if_pos h]
     rw [hz];exact .inl h
    ·cases hrb:r.2.bad with
     | true=>
      have hz:loopd c f l k r.2 (acc ++ [r.1]) = (acc ++ [r.1],r.2):=by
       cases k with
       | zero=>rfl
       | succ k=>rw [loopd,if_pos hrb]
      rw [hz];exact .inl hrb
     | false=>
      have hon:y.at_ < r.2.at_:=by rcases hK.on with h | h;exact h;rw [hrb] at h;cases h
      cases k with
      | zero=>exact absurd hk (by omega)
      | succ k=>
       rw [loopd,if_neg (by rw [hrb];decide),PS.takes_eq hrb (i:=l.length) (by rw [h2]),kd_out (by omega)] at hu ⊢
       rw [if_neg (by simpa using fun e=>hc e.symm)] at hu ⊢
       have hok2:=PS.ok_at (x:=r.2) (i:=l.length) hl h2 (Nat.le_refl _)
       have hK2:=hv r.2 hok2
       have hD2:r.2.deep = D:=by rw [hDf hrb];exact hD
       obtain ⟨r2,hr2⟩:∃ r2,r2 = f r.2:=⟨_,rfl⟩
       have hr2b:r2.2.bad = true:=by
        have:=hK2.on
        rw [← hr2] at this
        have h5:=hK2.ok.a1
        rw [← hr2] at h5
        rcases this with h | h
        ·omega
        ·exact h
       rw [← hr2] at hu ⊢
       have hz:loopd c f l k r2.2 ((acc ++ [r.1]) ++ [r2.1]) = ((acc ++ [r.1]) ++ [r2.1],r2.2):=by
        cases k with
        | zero=>rfl
        | succ k=>rw [loopd,if_pos hr2b]
       rw [hz];exact .inl hr2b
   | some q=>
    rw [hg] at hA
    obtain ⟨a1,a2,a3⟩:=hA
    have hon:y.at_ < r.2.at_:=by rcases hK.on with h | h;exact h;rw [a1] at h;cases h
    have hq1:=hK.ok.a1
    refine loop_agree hc hl hv D hd lo hf hend k m r.2 q.2 (acc ++ [r.1]) (acc' ++ [q.1]) a1 a3 (by omega) (by omega) (by rw [hDf a1];exact hD) (by omega) (by omega) ?_ hu
    rw [List.map_append,List.map_append,he,List.map_cons,List.map_cons,a2]
theorem end_bad {f:PS → List S50 × PS} {l:List S24} {n B:Nat} (hv:∀ x:PS,x.ok l → Keeps l n B x (f x)) {x:PS} (hok:x.ok l) (ha:x.at_ = l.length):(f x).2.bad = true:=by
 have hK:=hv x hok
 have:=hK.ok.a1
 rcases hK.on with h | h
 ·omega
 ·exact h
theorem named_no {l:List S24} {x:PS} {i:Nat} (hb:x.bad = false) (ha:x.at_ = i) (h:kd l i ≠ 15):(x.named l).2.bad = true:=by
 unfold PS.named
 rw [PS.takes_eq hb ha,if_neg (by simpa using h)]
 exact PS.bad_failed x
theorem named_yes {l:List S24} {x:PS} {i:Nat} (hb:x.bad = false) (ha:x.at_ = i) (h:kd l i = 15):x.named l = ((rd_T24 l i).f1,x.next):=by
 unfold PS.named
 rw [PS.takes_eq hb ha,if_pos (by rw [h];rfl),ha]
 unfold PS.next
 rw [ha]
theorem musted_no {l:List S24} {x:PS} {i:Nat} {c:Int} (hb:x.bad = false) (ha:x.at_ = i) (h:kd l i ≠ c):(x.musted l c).bad = true:=by
 unfold PS.musted
 rw [PS.takes_eq hb ha,if_neg (by simpa using h)]
 exact PS.bad_failed x
theorem musted_yes {l:List S24} {x:PS} {i:Nat} {c:Int} (hb:x.bad = false) (ha:x.at_ = i) (h:kd l i = c):x.musted l c = x.next:=by
 unfold PS.musted
 rw [PS.takes_eq hb ha,if_pos (by rw [h];simp)]
 rfl
theorem field_agree {f:PS → List S50 × PS} {g:Nat → Option (List S50 × Nat)} {l:List S24} {bad:Bool} {n B:Nat} (hl:l.length ≤ 3000) (hv:∀ x:PS,x.ok l → Keeps l n B x (f x)) (D:Int)
  (lo:Nat) (hf:∀ (y:PS) (j:Nat),y.bad = false → y.at_ = j → j ≤ l.length → lo ≤ j → y.deep = D → (f y).2.unsure = false → Agree l bad (f y) (g j))
  (y:PS) (j:Nat) (hb:y.bad = false) (ha:y.at_ = j) (hj:j ≤ l.length) (hlo:lo ≤ j) (hD:y.deep = D) (hu:(fldd f l y).2.unsure = false):Agree l bad (fldd f l y) (pfield 19 g l bad j):=by
 have hok:=PS.ok_at (x:=y) hl ha hj
 have hok2:=fieldd_ok hok
 have hbadF:(fieldd l y).bad = true → Refd l bad (fldd f l y).2:=fun e=>.inl ((hv _ hok2).bad e)
 unfold pfield
 by_cases h15:kd l j = 15
 ·rw [if_pos h15]
  have hjl:=kd_in (l:=l) (i:=j) (by rw [h15];decide)
  have hn:=named_yes hb ha h15
  have hna:y.next.at_ = (j + 1:Nat):=PS.next_at ha
  cases hp:pnext l bad j with
  | none=>
   obtain ⟨h1,h2⟩:=pnext_none hp
   refine hbadF ?_
   unfold fieldd
   rw [hn]
   exact musted_no hb hna (by rw [kd_out (by omega)];decide)
  | some j1=>
   obtain ⟨rfl,-⟩:=pnext_some hp
   show Agree l bad _ (if kd l ((j + 1:Nat):Int) = 7 then _ else _)
   by_cases h7:kd l ((j + 1:Nat):Int) = 7
   ·rw [if_pos h7]
    have hjl2:=kd_in (l:=l) (i:=j + 1) (by rw [h7];decide)
    have hm:fieldd l y = y.next.next:=by unfold fieldd;rw [hn];exact musted_yes hb hna h7
    have hna2:y.next.next.at_ = (j + 1 + 1:Nat):=PS.next_at hna
    cases hp2:pnext l bad (j + 1) with
    | none=>
     obtain ⟨h1,h2⟩:=pnext_none hp2
     refine .inl (end_bad hv hok2 ?_)
     rw [hm,hna2];omega
    | some j2=>
     obtain ⟨rfl,-⟩:=pnext_some hp2
     show Agree l bad _ (match g (j + 1 + 1) with | none=>none | some r=>some (made (nd 19 (rd_T24 l j).f1) [r.1],r.2))
     have hA:=hf y.next.next (j + 1 + 1) hb hna2 (by omega) (by omega) hD (by unfold fldd at hu;rw [hm] at hu;exact hu)
     cases hg:g (j + 1 + 1) with
     | none=>
      rw [hg] at hA
      show Refd l bad (fldd f l y).2
      unfold fldd
      rw [hm]
      exact hA
     | some q=>
      rw [hg] at hA
      obtain ⟨a1,a2,a3⟩:=hA
      unfold fldd
      rw [hm,hn]
      exact ⟨a1,flat_made (fun k=>rfl) (by simp [a2]),a3⟩
   ·rw [if_neg h7]
    refine hbadF ?_
    unfold fieldd
    rw [hn]
    exact musted_no hb hna h7
 ·rw [if_neg h15]
  refine hbadF ?_
  unfold fieldd
  exact (PS.musted_at l _ 7).2.2 (named_no hb ha h15)
theorem leaf_agree {l:List S24} {bad:Bool} {i:Nat} {x:PS} {nd1 nd2:S50} (hil:i < l.length) (hb:x.bad = false) (ha:x.at_ = i) (hn:∀ k,S50.flat { nd1 with f5:=k } = S50.flat { nd2 with f5:=k }):Agree l bad (made nd1 [],x.next) (pleaf nd2 (pnext l bad i)):=by
 cases hp:pnext l bad i with
 | none=>
  obtain ⟨h1,h2⟩:=pnext_none hp
  exact .inr ⟨h2,by show x.at_ + 1 = _;rw [ha];omega⟩
 | some j=>
  obtain ⟨rfl,-⟩:=pnext_some hp
  exact ⟨hb,flat_made hn rfl,PS.next_at ha⟩
theorem Agree.left {l:List S24} {bad:Bool} {r:List S50 × PS} {o:Option (List S50 × Nat)} (h:Agree l bad r o):Agree l bad (r.1,r.2.left) o:=by
 cases o with
 | none=>exact h
 | some q=>exact h
theorem rounds_agree {c q:Int} (hc:c ≠ 1) {f:PS → List S50 × PS} {g:Nat → Option (List S50 × Nat)} {l:List S24} {bad:Bool} {n B:Nat} (hl:l.length ≤ 2000) (hv:∀ x:PS,x.ok l → Keeps l n B x (f x)) (D:Int)
  (lo:Nat) (hf:∀ (y:PS) (j:Nat),y.bad = false → y.at_ = j → j ≤ l.length → lo ≤ j → y.deep = D → (f y).2.unsure = false → Agree l bad (f y) (g j)) (hend:∀ j,¬ j < l.length → g j = none)
  {x:PS} {i:Nat} (hb:x.bad = false) (ha:x.at_ = i) (hil:i < l.length) (hlo:lo ≤ i + 1) (hD:x.deep = D) (hu:(loopd c f l 3001 x.next []).2.unsure = false) :
  Agree l bad (made (nd q ⟨#[]⟩) (loopd c f l 3001 x.next []).1,(loopd c f l 3001 x.next []).2) (match pnext l bad i with | none=>none | some j=>(match plist c g l bad (l.length + 1) j [] with | none=>none | some r=>some (made (nd q ⟨#[]⟩) r.1,r.2))):=by
 have hna:x.next.at_ = (i + 1:Nat):=PS.next_at ha
 cases hp:pnext l bad i with
 | none=>
  obtain ⟨h1,h2⟩:=pnext_none hp
  have hok:=PS.ok_at (l:=l) (x:=x.next) (i:=i + 1) (by omega) hna (by omega)
  show Refd l bad (loopd c f l 3001 x.next []).2
  have hz:loopd c f l 3001 x.next [] = loopd c f l 3000 (f x.next).2 ([] ++ [(f x.next).1]):=by
   rw [loopd,if_neg (by show ¬ x.bad = true;rw [hb];decide),PS.takes_eq (x:=x.next) (i:=i + 1) hb hna,kd_out (by omega),if_neg (by simpa using fun e=>hc e.symm)]
  have hbad:=end_bad hv hok (by rw [hna];omega)
  rw [hz]
  have hz2:loopd c f l 3000 (f x.next).2 ([] ++ [(f x.next).1]) = ([] ++ [(f x.next).1],(f x.next).2):=by rw [loopd,if_pos hbad]
  rw [hz2]
  exact .inl hbad
 | some j=>
  obtain ⟨rfl,-⟩:=pnext_some hp
  have hA:=loop_agree hc (by omega) hv D (fun y hy he=>(hv y hy).de he) lo hf hend 3001 (l.length + 1) x.next (i + 1) [] [] hb hna (by omega) hlo hD (by omega) (by omega) rfl hu
  show Agree l bad _ (match plist c g l bad (l.length + 1) (i + 1) [] with | none=>none | some r=>some (made (nd q ⟨#[]⟩) r.1,r.2))
  cases hq:plist c g l bad (l.length + 1) (i + 1) [] with
  | none=>rw [hq] at hA;exact hA
  | some r=>
   rw [hq] at hA
   obtain ⟨a1,a2,a3⟩:=hA
   exact ⟨a1,flat_made (fun k=>rfl) a2,a3⟩
theorem pval_end (l:List S24) (bad:Bool):∀ (n j:Nat),¬ j < l.length → pval l bad n j = none
 | 0,j,h=>rfl
 | n + 1,j,h=>by
  have hk:=kd_out h
  rw [pval,hk]
  simp
theorem pfield_end (q:Int) (g:Nat → Option (List S50 × Nat)) (l:List S24) (bad:Bool) (j:Nat) (h:¬ j < l.length):pfield q g l bad j = none:=by
 unfold pfield
 rw [if_neg (by rw [kd_out h];decide)]
theorem kd_rd {l:List S24} {i:Nat} (h:i < l.length):kd l i = (rd_T24 l i).f0:=by unfold kd;rw [if_pos (by omega)]
theorem val_agree {l:List S24} {bad:Bool} (hl:l.length ≤ 2000):∀ (n m:Nat) (x:PS) (i:Nat),x.bad = false → x.at_ = i → i ≤ l.length → 61 ≤ x.deep + n → l.length < i + m → (vald n l x).2.unsure = false → Agree l bad (vald n l x) (pval l bad m i)
 | 0,m,x,i,hb,ha,hi,hd,hm,hu=>by
  exfalso
  rw [vald] at hu
  rw [PS.uns_failed] at hu
  cases hu
 | n + 1,0,x,i,hb,ha,hi,hd,hm,hu=>by omega
 | n + 1,m + 1,x,i,hb,ha,hi,hd,hm,hu=>by
  obtain ⟨xa,xd,xw,xb,xu⟩:=x
  obtain rfl:xb = false:=hb
  obtain rfl:xa = i:=ha
  have hd:(61:Int) ≤ xd + (n + 1:Nat):=hd
  have hd1:xd + 1 ≤ 60:=by
   rcases Int.lt_or_le 60 (xd + 1) with hgt | hle
   ·exfalso
    have he:PS.entered ⟨i,xd,xw,false,xu⟩ = PS.failed ⟨i,xd + 1,xw,false,true⟩:=by unfold PS.entered;rw [if_pos hgt]
    rw [vald,he,if_pos (PS.bad_failed _),PS.uns_failed] at hu
    cases hu
   ·exact hle
  have he:PS.entered ⟨i,xd,xw,false,xu⟩ = ⟨i,xd + 1,xw,false,xu⟩:=by unfold PS.entered;rw [if_neg (by show ¬ (xd + 1 > 60);omega)]
  have hV:vald (n + 1) l ⟨i,xd,xw,false,xu⟩ = ((valH (vald n l) l ⟨i,xd + 1,xw,false,xu⟩).1,(valH (vald n l) l ⟨i,xd + 1,xw,false,xu⟩).2.left):=by
   rw [vald,he,if_neg (by show ¬ (false = true);decide)]
  rw [hV] at hu ⊢
  have hu:(valH (vald n l) l ⟨i,xd + 1,xw,false,xu⟩).2.unsure = false:=hu
  refine Agree.left (r:=valH (vald n l) l ⟨i,xd + 1,xw,false,xu⟩) ?_
  clear hV he
  unfold valH at hu ⊢
  by_cases hil:i < l.length
  ·have hlt:((PS.mk i (xd + 1) xw false xu).at_ < (l.length:Int)):=by show (i:Int) < _;omega
   rw [if_pos hlt] at hu ⊢
   have hk:=kd_rd hil
   have hIH:∀ (y:PS) (j:Nat),y.bad = false → y.at_ = j → j ≤ l.length → y.deep = xd + 1 → (vald n l y).2.unsure = false → l.length < j + m → Agree l bad (vald n l y) (pval l bad m j):=
    fun y j h1 h2 h3 h4 h5 h6=>val_agree hl n m y j h1 h2 h3 (by rw [h4];omega) h6 h5
   rw [pval,hk]
   show Agree l bad (valT (vald n l) l (rd_T24 l i) ⟨i,xd + 1,xw,false,xu⟩) _
   have hu:(valT (vald n l) l (rd_T24 l i) ⟨i,xd + 1,xw,false,xu⟩).2.unsure = false:=hu
   obtain ⟨t,ht⟩:∃ t,t = rd_T24 l i:=⟨_,rfl⟩
   rw [← ht] at hu hk ⊢
   clear ht
   have hkv:=vald_keeps l n
   by_cases h3:t.f0 = 3
   ·unfold valT at hu ⊢
    rw [if_pos h3] at hu ⊢
    rw [h3,if_neg (by decide),if_neg (by decide),if_neg (by decide),if_neg (by decide),if_neg (by decide),if_neg (by decide),if_pos rfl]
    have hna:(PS.mk i (xd + 1) xw false xu).next.at_ = (i + 1:Nat):=PS.next_at rfl
    cases hp:pnext l bad i with
    | none=>
     obtain ⟨h1,h2⟩:=pnext_none hp
     exact .inl (named_no (i:=i + 1) rfl hna (by rw [kd_out (by omega)];decide))
    | some j=>
     obtain ⟨rfl,-⟩:=pnext_some hp
     show Agree l bad _ (if kd l ((i + 1:Nat):Int) = 15 then _ else _)
     by_cases h15:kd l ((i + 1:Nat):Int) = 15
     ·rw [if_pos h15,named_yes (i:=i + 1) rfl hna h15]
      exact leaf_agree (kd_in (l:=l) (i:=i + 1) (by rw [h15];decide)) rfl hna (fun k=>rfl)
     ·rw [if_neg h15]
      exact .inl (named_no (i:=i + 1) rfl hna h15)
   by_cases h16:t.f0 = 16 ∨ t.f0 = 17
   ·unfold valT at hu ⊢
    rw [if_neg h3,if_pos h16]
    rcases h16 with h16 | h16
    ·rw [h16,if_neg (by decide),if_neg (by decide),if_pos rfl]
     exact leaf_agree hil rfl rfl (fun k=>rfl)
    ·rw [h16,if_neg (by decide),if_neg (by decide),if_neg (by decide),if_pos rfl]
     exact leaf_agree hil rfl rfl (fun k=>rfl)
   by_cases h18:t.f0 = 18 ∨ t.f0 = 19
   ·unfold valT at hu ⊢
    rw [if_neg h3,if_neg h16,if_pos h18]
    rcases h18 with h18 | h18
    ·rw [h18,if_neg (by decide),if_neg (by decide),if_neg (by decide),if_neg (by decide),if_pos (.inl rfl)]
     exact leaf_agree hil rfl rfl (fun k=>rfl)
    ·rw [h18,if_neg (by decide),if_neg (by decide),if_neg (by decide),if_neg (by decide),if_pos (.inr rfl)]
     exact leaf_agree hil rfl rfl (fun k=>rfl)
   by_cases h15:t.f0 = 15
   ·unfold valT at hu ⊢
    rw [if_neg h3,if_neg h16,if_neg h18,if_pos h15] at hu ⊢
    rw [h15,if_neg (show ¬ (15:Int) = 10 by decide),if_neg (show ¬ (15:Int) = 12 by decide),if_neg (show ¬ (15:Int) = 16 by decide),if_neg (show ¬ (15:Int) = 17 by decide),if_neg (show ¬ ((15:Int) = 18 ∨ (15:Int) = 19) by decide),if_pos (rfl:(15:Int) = 15)]
    by_cases hT:t.f1 = wTrue
    ·rw [if_pos hT,if_pos hT]
     exact leaf_agree hil rfl rfl (fun k=>rfl)
    rw [if_neg hT] at hu ⊢
    rw [if_neg hT]
    by_cases hF:t.f1 = wFalse
    ·rw [if_pos hF,if_pos hF]
     exact leaf_agree hil rfl rfl (fun k=>rfl)
    rw [if_neg hF] at hu ⊢
    rw [if_neg hF]
    by_cases hN:t.f1 = wNull
    ·exfalso
     rw [if_pos hN,PS.uns_failed] at hu
     cases hu
    rw [if_neg hN,if_neg hN]
    exact leaf_agree hil rfl rfl (fun k=>rfl)
   by_cases h10:t.f0 = 10
   ·unfold valT at hu ⊢
    rw [if_neg h3,if_neg h16,if_neg h18,if_neg h15,if_pos h10] at hu ⊢
    rw [h10,if_pos rfl]
    exact rounds_agree (by decide) hl hkv (xd + 1) (i + 1) (fun y j h1 h2 h3 h4 h5 h6=>hIH y j h1 h2 h3 h5 h6 (by omega)) (fun j=>pval_end l bad m j) rfl rfl hil (by omega) rfl hu
   by_cases h12:t.f0 = 12
   ·unfold valT at hu ⊢
    rw [if_neg h3,if_neg h16,if_neg h18,if_neg h15,if_neg h10,if_pos h12] at hu ⊢
    rw [h12,if_neg (by decide),if_pos rfl]
    exact rounds_agree (by decide) hl (fldd_keeps hkv) (xd + 1) (i + 1) (fun y j h1 h2 h3 h4 h5 h6=>field_agree (by omega) hkv (xd + 1) (i + 1) (fun y j h1 h2 h3 h4 h5 h6=>hIH y j h1 h2 h3 h5 h6 (by omega)) y j h1 h2 h3 h4 h5 h6) (fun j=>pfield_end 19 _ l bad j) rfl rfl hil (by omega) rfl hu
   ·unfold valT
    rw [if_neg h3,if_neg h16,if_neg h18,if_neg h15,if_neg h10,if_neg h12,if_neg h10,if_neg h12,if_neg (fun e=>h16 (.inl e)),if_neg (fun e=>h16 (.inr e)),if_neg h18,if_neg h15,if_neg h3]
    exact .inl (PS.bad_failed _)
  ·have hlt:¬ ((PS.mk i (xd + 1) xw false xu).at_ < (l.length:Int)):=by show ¬ (i:Int) < _;omega
   rw [if_neg hlt,pval_end l bad _ _ hil]
   exact .inl (PS.bad_failed _)
theorem info208:(Tryz.prog.info? 208).map (fun i=>(i.zero,i.size,i.bytes)) = some (some (.agg #[.int .i64 0,.int .i64 0]),2,16):=by kernel_rfl
def k208:Kd (Int × Int):=Kd.pair (Kd.int .i64) (Kd.int .i64)
theorem k208_mkM (w:World) (base:Nat) (ok:Nat → Prop) (a b:Int):k208.M w base ok (a,b) [.int .i64 a,.int .i64 b]:=⟨[_],[_],rfl,rfl,rfl⟩
theorem k208_ne {t:Nat} (h:t ≠ 208):∀ q,q ∈ 208 :: k208.E → q ≠ t:=by
 have:∀ q,q ∈ 208 :: k208.E → q = 208:=by simp [k208,Kd.pair,Kd.int,Kd.scalar]
 exact fun q hq=>by rw [this q hq];exact fun e=>h e.symm
def Tk (W:World) (base g:Nat) (d:List S50):Prop:=∃ v1 v2 sp,W.heap[g]? = some (.cells #[v1,v2,.bool false] 87 (0,0)) ∧ base ≤ g ∧ k50.R 50 W base (fun _=>True) v1 d ∧ k208.R 208 W base (fun _=>True) v2 sp ∧ sp.length = d.length
theorem Tk.below {W W1:World} {base g:Nat} {d:List S50} (h:Tk W base g d) (hb:Below W.heap.size W W1):Tk W1 base g d:=by
 obtain ⟨v1,v2,sp,h,hg,r1,r2,hs⟩:=h
 exact ⟨v1,v2,sp,blk_below h hb,hg,Kd.R_below r1 hb,Kd.R_below r2 hb,hs⟩
def KeepX (W W1:World):Prop:=∀ (k T:Nat) (cs:Array Value),W.heap[k]? = some (.cells cs T (0,0)) → T ≠ 87 → T ≠ 50 → T ≠ 208 → W1.heap[k]? = some (.cells cs T (0,0))
theorem KeepX.refl (W:World):KeepX W W:=fun _ _ _ h _ _ _=>h
theorem KeepX.trans {W W1 W2:World} (h:KeepX W W1) (k:KeepX W1 W2):KeepX W W2:=fun a T cs h0 h1 h2 h3=>k a T cs (h a T cs h0 h1 h2 h3) h1 h2 h3
theorem KeepX.of_below {W W1:World} (h:Below W.heap.size W W1):KeepX W W1:=fun k T cs hk _ _ _=>blk_below hk h
theorem KeepX.set {W W1:World} (h:KeepX W W1) {g T:Nat} {cs:Array Value} (hg:W1.heap[g]? = some (.cells cs T (0,0))) (hT:T = 87 ∨ T = 50 ∨ T = 208) (j:Nat) (u:Value):KeepX W (W1.setCell ⟨g,j,none⟩ u):=by
 intro k T' cs' hk h1 h2 h3
 have hk1:=h k T' cs' hk h1 h2 h3
 refine blk_far (p:=⟨g,j,none⟩) hk1 (fun e=>?_) u
 have e:k = g:=e
 subst e
 rw [hg] at hk1
 injection hk1 with hk1
 injection hk1 with _ a
 rcases hT with hT | hT | hT
 ·exact h1 (a.symm.trans hT)
 ·exact h2 (a.symm.trans hT)
 ·exact h3 (a.symm.trans hT)
theorem KeepX.grown {W W1:World} {v:Value} {E:Nat} (hg:W.grownBy W1 v.ownBlock) (ht:∀ k,v.ownBlock = some k → ∃ cells,W.heap[k]? = some (.cells cells E (0,0))) (hE:E = 50 ∨ E = 208):KeepX W W1:=fun k T cs hk h1 h2 h3=>blk_grown hk hg ht (by omega)
theorem R_grown {α:Type} {k:Kd α} {e base E:Nat} {ok:Nat → Prop} {W W1:World} {v u:Value} {xs:List α} (h:k.R e W base ok u xs) (hg:W.grownBy W1 v.ownBlock) (ht:∀ b,v.ownBlock = some b → ∃ cells,W.heap[b]? = some (.cells cells E (0,0))) (hE:∀ q,q ∈ e :: k.E → q ≠ E):k.R e W1 base ok u xs:=
 Kd.R_mono (Kd.R_step (Kd.R_apart' h ht hE) (fun b hb hl=>hg.block b hl hb.2)) (fun b hb=>hb.1)
def Tk1 (w wc:World) (base g:Nat) (d:List S50) (sp:List (Int × Int)):Prop:=∃ v1 v2,wc.heap[g]? = some (.cells #[v1,v2,.bool false] 87 (0,0)) ∧ k50.R 50 wc base (fun _=>True) v1 d ∧ k208.R 208 wc base (fun _=>True) v2 sp ∧ Below base w wc ∧ KeepX w wc
def Within (base g:Nat) (w:World) (d1 kids:List S50) (u:Value):Prop:=
 (u = .nilFunc ∧ kids = []) ∨ ∃ f cap,u = .func (.func f) #[] cap ∧ (f = 77 ∨ f = 78 ∨ f = 85 ∨ f = 86 ∨ f = 87 ∨ f = 89) ∧ ∀ W,Tk W base g d1 → KeepX w W → Below base w W → Calls Tryz.prog f cap W fun e w'=>e = .returned (.tuple #[]) ∧ Tk w' base g (d1 ++ kids) ∧ Below base W w' ∧ KeepX W w'
theorem run_equalIn_func_nil {P:Program} (w:World) (d:Nat) (t:TypeId) (ps rs vd) (f:Fn) (a b:Array Value) (h:P.underlying t = some (.func ps rs vd)):(Op.equalIn (d + 1) t (.func f a b) .nilFunc).run P w = .ok false w:=by
 unfold Op.equalIn
 simp [run_underlying h]
theorem run_equalIn_nilfunc {P:Program} (w:World) (d:Nat) (t:TypeId) (ps rs vd) (h:P.underlying t = some (.func ps rs vd)):(Op.equalIn (d + 1) t .nilFunc .nilFunc).run P w = .ok true w:=by
 unfold Op.equalIn
 simp [run_underlying h]
theorem neq_nil_nil (W:World):(binOp .neq 1 .nilFunc .nilFunc).run Tryz.prog W = .ok (.bool false) W:=by
 simp only [binOp]
 simp [Op.equal,Op.maxDepth,run_equalIn_nilfunc W 9999 1 _ _ _ Tryz.underlying1]
theorem neq_fn_nil (W:World) (f:FuncId) (cap:Array Value):(binOp .neq 1 (.func (.func f) #[] cap) .nilFunc).run Tryz.prog W = .ok (.bool true) W:=by
 simp only [binOp]
 simp [Op.equal,Op.maxDepth,run_equalIn_func_nil W 9999 1 _ _ _ _ _ _ Tryz.underlying1]
theorem setNode_mid (d kids:List S50) (x y:S50):(d ++ [x] ++ kids).set d.length y = d ++ y :: kids:=by
 rw [List.append_assoc,List.set_append_right _ _ (Nat.le_refl _),Nat.sub_self]
 rfl
theorem getNode_mid (d kids:List S50) (x:S50) (h:d.length < (d ++ [x] ++ kids).length):(d ++ [x] ++ kids)[d.length] = x:=by
 simp
theorem Tk_size {W:World} {base g:Nat} {d kids:List S50} {x:S50} (h:Tk W base g (d ++ [x] ++ kids)):∃ (ad:Addr) (c:Nat) (u v2:Value),d.length < (d ++ [x] ++ kids).length ∧ (d ++ [x] ++ kids).length ≤ c ∧
  W.heap[g]? = some (.cells #[.slice (some ad) (d ++ [x] ++ kids).length c,v2,.bool false] 87 (0,0)) ∧ W.cell? ⟨(ad.add (d.length * 6)).block,(ad.add (d.length * 6)).off + 5,none⟩ = some u ∧
  W.frozen? ⟨(ad.add (d.length * 6)).block,(ad.add (d.length * 6)).off + 5,none⟩ = false ∧
  ∀ W1,W1 = W.setCell ⟨(ad.add (d.length * 6)).block,(ad.add (d.length * 6)).off + 5,none⟩ (.int .i64 (1 + kids.length)) → Tk W1 base g (d ++ { x with f5:=1 + kids.length } :: kids) ∧ Below base W W1 ∧ KeepX W W1:=by
 obtain ⟨v1,v2,sp,hh,hg,hr1,hr2,hs⟩:=h
 have hlt:d.length < (d ++ [x] ++ kids).length:=by rw [List.length_append,List.length_append,List.length_singleton];omega
 have hty:=Kd.R_typed hr1
 obtain ⟨g2,c,rfl,hle,hg2,hg2l,⟨u,hu⟩,hf,hset⟩:=R50_size hr1 d.length hlt
 obtain ⟨cells2,hc2⟩:=hty g2 rfl
 have hne:g ≠ g2:=by
  intro e
  rw [e,hc2] at hh
  injection hh with hh
  injection hh with _ a
  exact absurd a (by decide)
 refine ⟨⟨g2,0,none⟩,c,u,v2,hlt,hle,hh,?_,?_,fun W1 hW1=>?_⟩
 ·rw [add_plain];exact hu
 ·rw [add_plain];exact hf
 ·rw [add_plain] at hW1
  subst hW1
  refine ⟨⟨_,v2,sp,blk_far (p:=⟨g2,d.length * 6 + 5,none⟩) hh hne _,hg,?_,Kd.R_set hr2 hc2 (k208_ne (by decide)) _ _,?_⟩,(Below.refl _ _).setCell hg2 _,(KeepX.refl W).set hc2 (.inr (.inl rfl)) _ _⟩
  ·have:=hset (1 + kids.length)
   rw [setNode_mid,getNode_mid _ _ _ hlt] at this
   exact this
  ·rw [hs];simp
set_option maxRecDepth 8000 in
set_option maxHeartbeats 8000000 in
theorem put_any (base g p:Nat) (x:S50) (d kids:List S50) (u:Value) (w:World) (h:Tk w base g d) (hb:base ≤ w.heap.size) (hloc:LocAt w p) (hlen:d.length + 1 + kids.length ≤ 100000) (hin:Within base g w (d ++ [x]) kids u) :
  Calls Tryz.prog 75 #[.pointer (some ⟨g,0,none⟩),.pointer (some ⟨p,0,none⟩),val50 x,u] w fun e w'=>e = .returned (.tuple #[]) ∧ Tk w' base g (d ++ ({ x with f5:=1 + kids.length } :: kids)) ∧ Below base w w' ∧ KeepX w w':=by
 have HIN:=Aside0.mk hin
 obtain ⟨v1,v2,sp,hh,hg,hr1,hr2,hsp⟩:=h
 obtain ⟨la,lb,lu,hl⟩:=hloc
 have HH:=Aside0.mk hh
 have HR1:=Aside0.mk hr1
 have HR2:=Aside0.mk hr2
 have HLO:=Aside0.mk hl
 obtain ⟨A1,cp1,rfl,hc1,-⟩:=Kd.R_reads hr1
 have c0:=(blk_cell hh 0).trans rfl
 have HSP:=Aside0.mk hsp
 clear hin hh hr1 hr2 hl hc1 hsp
 obtain ⟨x0,x1,x2,x3,x4,x5⟩:=x
 have hgl:=blk_lt HH.out
 go_enter Tryz.func75,Tryz.ntmps75
 go_upto_region 2 with fail
 obtain ⟨Wb,hWb⟩:∃ Wb,Wb = w.alloc (.cells #[.int .i64 x0,.string x1,.string x2,.string x3,.int .i64 x4,.int .i64 x5] 50):=⟨_,rfl⟩
 have hBb:Below w.heap.size w Wb:=by rw [hWb];exact below_alloc (Below.refl _ _) _
 have hEb:Wb.heap[w.heap.size]? = some (.cells #[.int .i64 x0,.string x1,.string x2,.string x3,.int .i64 x4,.int .i64 x5] 50 (0,0)):=by rw [hWb];exact blk_new _ _
 rw [← hWb]
 have HBb:=Aside0.mk hBb
 have HHb:=Aside0.mk (blk_below HH.out hBb)
 have HR1b:=Aside0.mk (Kd.R_below HR1.out hBb)
 have HR2b:=Aside0.mk (Kd.R_below HR2.out hBb)
 have HLOb:=Aside0.mk (blk_below HLO.out hBb)
 obtain ⟨v1,hv1⟩:∃ v1,v1 = Value.slice A1 d.length cp1:=⟨_,rfl⟩
 rw [← hv1] at HHb HR1b
 clear hv1
 have b0:=(blk_cell HHb.out 0).trans rfl
 have e0:=(blk_cell hEb 0).trans rfl
 have e1:=(blk_cell hEb 1).trans rfl
 have e2:=(blk_cell hEb 2).trans rfl
 have e3:=(blk_cell hEb 3).trans rfl
 have e4:=(blk_cell hEb 4).trans rfl
 have e5:=(blk_cell hEb 5).trans rfl
 have hwb:=blk_lt hEb
 have hbb:base ≤ Wb.heap.size:=by omega
 have hglb:=blk_lt HHb.out
 clear hWb hBb hEb c0
 have hl72:(d.length + 1) * 72 ≤ 140737488355328:=by omega
 have HL72:=Aside0.mk hl72
 clear hl72
 go_cut [14] (fun v14 wc=>Aside0 (Tk1 w wc base g (d ++ [⟨x0,x1,x2,x3,x4,x5⟩]) sp))
 case first=>
  go_region_law (refine Kd.R_append_step k50 (w0:=Wb) base rfl (.tmp 18) (.tmp 20) 41 50 _ 72 rfl Tryz.underlying41 info50 rfl (by decide) (by decide) v1 d ⟨x0,x1,x2,x3,x4,x5⟩ [.int .i64 x0,.string x1,.string x2,.string x3,.int .i64 x4,.int .i64 x5] (fun _=>True) (fun _=>False) (by simp [Act.eval,Act.put]) (by simp [Act.eval,Act.put]) (k50_mkM _ _ _ _) (fun _ hk=>hk.elim) (fun _ _=>trivial) (Kd.R_drewN HR1b.out 1) (pw_below_drewN (Below.refl _ _) 1) hbb HL72.out ?_;intro v1n w1 hR1 hB1 hgrow hat;obtain ⟨A1n,cp1n,rfl,-,-⟩:=Kd.R_reads hR1;simp only [List.length_append,List.length_cons,List.length_nil,Nat.zero_add] at hR1;have hw1:=blk_grown (w:=Wb.drewN 1) HHb.out hgrow (Kd.R_typed (Kd.R_drewN HR1b.out 1)) (by decide);have y0:=(blk_cell hw1 0).trans rfl;have fy:=fun j=>blk_frozen hw1 j;have HR1n:=Aside0.mk hR1;have HB1n:=Aside0.mk hB1;have HG1:=Aside0.mk hgrow;have HW1:=Aside0.mk hw1;clear hR1 hB1 hgrow hat hw1)
  all_goals
   go_wp2_with fail
   go_meet
   case rel=>
    refine ⟨⟨_,v2,(blk_set HW1.out 0 _).trans rfl,Kd.R_set HR1n.out HW1.out (k50_ne (by decide)) 0 _,?_,?_,?_⟩⟩
    ·refine Kd.R_set ?_ HW1.out (k208_ne (by decide)) 0 _
     exact R_grown (Kd.R_drewN HR2b.out 1) HG1.out (Kd.R_typed (Kd.R_drewN HR1b.out 1)) (k208_ne (by decide))
    ·exact ((HBb.out.mono hb).trans HB1n.out).setCell hg _
    ·exact (((KeepX.of_below HBb.out).trans (KeepX.of_below (pw_below_drewN (Below.refl _ _) 1))).trans (KeepX.grown HG1.out (Kd.R_typed (Kd.R_drewN HR1b.out 1)) (.inl rfl))).set HW1.out (.inl rfl) 0 _
 case rest=>
  obtain ⟨w1v,v2',hw1,hr1,hr2,hb1,hk1⟩:=hcut.out
  clear hcut e0 e1 e2 e3 e4 e5 b0 hwb hbb hglb
  have HW1:=Aside0.mk hw1
  have HR1c:=Aside0.mk hr1
  have HR2c:=Aside0.mk hr2
  have HB1:=Aside0.mk hb1
  have HK1:=Aside0.mk hk1
  have hl1:=hk1 _ _ _ HLO.out (by decide) (by decide) (by decide)
  have HL1:=Aside0.mk hl1
  have l0:=(blk_cell hl1 0).trans rfl
  have l1:=(blk_cell hl1 1).trans rfl
  have c1:=(blk_cell hw1 1).trans rfl
  have hglc:=blk_lt hw1
  have hplc:=blk_lt hl1
  have hbc:base ≤ wc.heap.size:=by omega
  have hl16:(sp.length + 1) * 16 ≤ 140737488355328:=by have:=HSP.out;omega
  have HL16:=Aside0.mk hl16
  clear hw1 hr1 hr2 hb1 hk1 hl1 hl16
  go_upto_region 5 with fail
  go_cut [28] (fun v28 w2=>Aside0 (Tk1 w w2 base g (d ++ [⟨x0,x1,x2,x3,x4,x5⟩]) (sp ++ [(la,lb)])))
  case first=>
   go_region_law (refine Kd.R_append_step k208 (w0:=wc) base rfl (.tmp 32) (.tmp 42) 85 208 _ 16 rfl Tryz.underlying85 info208 rfl (by decide) (by decide) v2' sp (la,lb) [.int .i64 la,.int .i64 lb] (fun _=>True) (fun _=>False) (by simp [Act.eval,Act.put]) (by simp [Act.eval,Act.put]) (k208_mkM _ _ _ _ _) (fun _ hk=>hk.elim) (fun _ _=>trivial) (Kd.R_drewN HR2c.out 1) (pw_below_drewN (Below.refl _ _) 1) hbc HL16.out ?_;intro v2n w2 hR2 hB2 hgrow hat;obtain ⟨A2n,cp2n,rfl,-,-⟩:=Kd.R_reads hR2;simp only [List.length_append,List.length_cons,List.length_nil,Nat.zero_add] at hR2;have hw2:=blk_grown (w:=wc.drewN 1) HW1.out hgrow (Kd.R_typed (Kd.R_drewN HR2c.out 1)) (by decide);have y1:=(blk_cell hw2 1).trans rfl;have fy:=fun j=>blk_frozen hw2 j;have HR2n:=Aside0.mk hR2;have HB2n:=Aside0.mk hB2;have HG2:=Aside0.mk hgrow;have HW2:=Aside0.mk hw2;clear hR2 hB2 hgrow hat hw2)
   all_goals
    go_wp2_with fail
    go_meet
    case rel=>
     refine ⟨⟨w1v,_,(blk_set HW2.out 1 _).trans rfl,?_,Kd.R_set HR2n.out HW2.out (k208_ne (by decide)) 1 _,?_,?_⟩⟩
     ·refine Kd.R_set ?_ HW2.out (k50_ne (by decide)) 1 _
      exact R_grown (Kd.R_drewN HR1c.out 1) HG2.out (Kd.R_typed (Kd.R_drewN HR2c.out 1)) (k50_ne (by decide))
     ·exact (HB1.out.trans HB2n.out).setCell hg _
     ·exact ((HK1.out.trans (KeepX.of_below (pw_below_drewN (Below.refl _ _) 1))).trans (KeepX.grown HG2.out (Kd.R_typed (Kd.R_drewN HR2c.out 1)) (.inr rfl))).set HW2.out (.inl rfl) 1 _
  case rest=>
   obtain ⟨w2v,v2'',hw2,hr12,hr22,hb2,hk2⟩:=hcut.out
   have HT2:Aside0 (Tk wc base g (d ++ [⟨x0,x1,x2,x3,x4,x5⟩])):=⟨⟨w2v,v2'',_,hw2,hg,hr12,hr22,by simp [HSP.out]⟩⟩
   have HB2:=Aside0.mk hb2
   have HK2:=Aside0.mk hk2
   clear hcut hw2 hr12 hr22 hb2 hk2 l0 l1 c1 hglc hplc hbc
   rcases HIN.out with ⟨rfl,rfl⟩ | ⟨f,cap,rfl,hff,hcall⟩
   ·have HT3:Aside0 (Tk wc base g (d ++ [⟨x0,x1,x2,x3,x4,x5⟩] ++ [])):=⟨by rw [List.append_nil];exact HT2.out⟩
    obtain ⟨ad,c,u5,v5,hlt,hle,hh5,hu5,hf5,hfin⟩:=Tk_size HT3.out
    obtain ⟨L,hL⟩:∃ L,L = (d ++ [(⟨x0,x1,x2,x3,x4,x5⟩:S50)] ++ []).length:=⟨_,rfl⟩
    rw [← hL] at hlt hle hh5
    have hLd:(L:Int) - d.length = 1:=by rw [hL];simp;omega
    have hw:IntKind.i64.wrap ((L:Int) - d.length) = 1:=by rw [hLd,i64_w];unfold wrap64;omega
    have g0:=(blk_cell hh5 0).trans rfl
    have HFIN:=Aside0.mk hfin
    have nn:=neq_nil_nil
    clear hL hh5 hfin hLd
    go_wp2_with fail
    go_region
    all_goals
     go_wp2_with fail
     go_end0
     have hdr:Below wc.heap.size wc wc.drew:=below_drew (Below.refl _ _)
     obtain ⟨f1,f2,f3⟩:=HFIN.out _ rfl
     exact ⟨rfl,f1.below (by first | exact below_drew (Below.refl _ _) | exact Below.refl _ _),(HB2.out.trans f2).trans (by first | exact below_drew (Below.refl _ _) | exact Below.refl _ _),(HK2.out.trans f3).trans (KeepX.of_below (by first | exact below_drew (Below.refl _ _) | exact Below.refl _ _))⟩
   ·have nf:=fun W=>neq_fn_nil W f cap
    rcases hff with rfl | rfl | rfl | rfl | rfl | rfl
    all_goals
     go_wp2_with fail
     refine (hcall wc HT2.out HK2.out HB2.out).mono ?_
     rintro e w3 ⟨rfl,hT3,hB3,hK3⟩
     have HT3:=Aside0.mk hT3
     have HB3:=Aside0.mk (HB2.out.trans hB3)
     have HK3:=Aside0.mk (HK2.out.trans hK3)
     clear hT3 hB3 hK3
     obtain ⟨ad,c,u5,v5,hlt,hle,hh5,hu5,hf5,hfin⟩:=Tk_size HT3.out
     obtain ⟨L,hL⟩:∃ L,L = (d ++ [(⟨x0,x1,x2,x3,x4,x5⟩:S50)] ++ kids).length:=⟨_,rfl⟩
     rw [← hL] at hlt hle hh5
     have hLd:(L:Int) - d.length = 1 + kids.length:=by rw [hL,List.length_append,List.length_append,List.length_singleton];omega
     have hw:IntKind.i64.wrap ((L:Int) - d.length) = 1 + kids.length:=by rw [hLd,i64_w];unfold wrap64;omega
     have g0:=(blk_cell hh5 0).trans rfl
     have HFIN:=Aside0.mk hfin
     clear hL hh5 hfin hLd hcall
     go_wp2_with fail
     go_region
     all_goals
      go_wp2_with fail
      go_end0
      obtain ⟨f1,f2,f3⟩:=HFIN.out _ rfl
      exact ⟨rfl,f1.below (by first | exact below_drew (Below.refl _ _) | exact Below.refl _ _),(HB3.out.trans f2).trans (by first | exact below_drew (Below.refl _ _) | exact Below.refl _ _),(HK3.out.trans f3).trans (KeepX.of_below (by first | exact below_drew (Below.refl _ _) | exact Below.refl _ _))⟩
abbrev ptr (p:Nat):Value:=.pointer (some ⟨p,0,none⟩)
def TS:List Nat:=[207,222,142,146,148,150,153,155,159,163,166,171,95,164]
inductive LeafV:S50 → Nat → Nat → Value → Prop
 | int (s:ByteArray):LeafV ⟨12,⟨#[]⟩,⟨#[]⟩,s,0,0⟩ 144 146 (.string s)
 | float (s:ByteArray):LeafV ⟨13,⟨#[]⟩,⟨#[]⟩,s,0,0⟩ 147 148 (.string s)
 | text (s:ByteArray):LeafV ⟨14,⟨#[]⟩,⟨#[]⟩,s,0,0⟩ 149 150 (.string s)
 | yes:LeafV ⟨15,⟨#[]⟩,⟨#[]⟩,⟨#[]⟩,1,0⟩ 151 153 (.bool true)
 | no:LeafV ⟨15,⟨#[]⟩,⟨#[]⟩,⟨#[]⟩,0,0⟩ 151 153 (.bool false)
 | enum (s:ByteArray):LeafV (nd 16 s) 154 155 (.string s)
theorem LeafV.ty {x:S50} {I T:Nat} {u:Value} (h:LeafV x I T u):T ∈ TS:=by cases h <;> decide
def FieldAt (W:World) (ok:Nat → Prop) (p:Nat) (n:ByteArray) (v:Nat × Nat):Prop:=
 ok p ∧ ∃ k x q,W.heap[p]? = some (.cells #[.string k,ptr x,ptr q,.iface v.1 (ptr v.2)] 166 (0,0)) ∧ (ok x ∧ NameAt W x n) ∧ (ok q ∧ LocAt W q)
inductive RepV (W:World) (ok:Nat → Prop):List S50 → Nat → Nat → Prop
 | leaf {x:S50} {I T p q:Nat} {k:ByteArray} {u:Value} (hl:LeafV x I T u) (hp:ok p) (h:W.heap[p]? = some (.cells #[.string k,ptr q,u] T (0,0))) (hq:ok q) (hL:LocAt W q):RepV W ok (made x []) I p
 | var {n k:ByteArray} {p q x:Nat} (hp:ok p) (h:W.heap[p]? = some (.cells #[.string k,ptr q,ptr x] 142 (0,0))) (hq:ok q) (hL:LocAt W q) (hx:ok x) (hN:NameAt W x n):RepV W ok (made (nd 11 n) []) 141 p
 | list {nss:List (List S50)} {k:ByteArray} {p q:Nat} {v:Value} {inner:List Value} {is:Nat → Nat × Nat} (hp:ok p) (h:W.heap[p]? = some (.cells #[.string k,ptr q,v] 159 (0,0))) (hq:ok q) (hL:LocAt W q)
   (hv:∀ b,v.ownBlock = some b → ok b) (ho:W.ownsRow 0 95 1 v nss.length inner) (hi:∀ i,i < nss.length → inner[i]? = some (.iface (is i).1 (ptr (is i).2)))
   (hk:∀ (i:Nat) (hlt:i < nss.length),RepV W ok nss[i] (is i).1 (is i).2):RepV W ok (made (nd 17 ⟨#[]⟩) nss) 156 p
 | obj {fs:List (ByteArray × List S50)} {k:ByteArray} {p q:Nat} {v:Value} {inner:List Value} {ps:Nat → Nat} {is:Nat → Nat × Nat} (hp:ok p) (h:W.heap[p]? = some (.cells #[.string k,ptr q,v] 163 (0,0))) (hq:ok q) (hL:LocAt W q)
   (hv:∀ b,v.ownBlock = some b → ok b) (ho:W.ownsRow 0 164 1 v fs.length inner) (hi:∀ i,i < fs.length → inner[i]? = some (ptr (ps i)))
   (hf:∀ (i:Nat) (hlt:i < fs.length),FieldAt W ok (ps i) fs[i].1 (is i))
   (hk:∀ (i:Nat) (hlt:i < fs.length),RepV W ok fs[i].2 (is i).1 (is i).2):RepV W ok (made (nd 18 ⟨#[]⟩) (fs.map fun f=>made (nd 19 f.1) [f.2])) 160 p
def Mv (W W1:World) (ok ok1:Nat → Prop):Prop:=∀ (k T:Nat) (cs:Array Value),ok k → W.heap[k]? = some (.cells cs T (0,0)) → T ∈ TS → ok1 k ∧ W1.heap[k]? = some (.cells cs T (0,0))
theorem Mv.loc {W W1:World} {ok ok1:Nat → Prop} (hm:Mv W W1 ok ok1) {q:Nat} (h:ok q) (hL:LocAt W q):ok1 q ∧ LocAt W1 q:=by
 obtain ⟨a,b,u,hL⟩:=hL
 obtain ⟨h1,h2⟩:=hm q _ _ h hL (by decide)
 exact ⟨h1,a,b,u,h2⟩
theorem Mv.name {W W1:World} {ok ok1:Nat → Prop} (hm:Mv W W1 ok ok1) {q:Nat} {n:ByteArray} (h:ok q) (hL:NameAt W q n):ok1 q ∧ NameAt W1 q n:=by
 obtain ⟨a,b,hL⟩:=hL
 obtain ⟨h1,h2⟩:=hm q _ _ h hL (by decide)
 exact ⟨h1,a,b,h2⟩
theorem Mv.field {W W1:World} {ok ok1:Nat → Prop} (hm:Mv W W1 ok ok1) {p:Nat} {n:ByteArray} {v:Nat × Nat} (h:FieldAt W ok p n v):FieldAt W1 ok1 p n v:=by
 obtain ⟨h0,k,x,q,h1,⟨hx,hN⟩,hq,hL⟩:=h
 obtain ⟨g0,g1⟩:=hm p _ _ h0 h1 (by decide)
 exact ⟨g0,k,x,q,g1,hm.name hx hN,hm.loc hq hL⟩
theorem Mv.row {W W1:World} {ok ok1:Nat → Prop} (hm:Mv W W1 ok ok1) {e n:Nat} {v:Value} {inner:List Value} (he:e ∈ TS) (hv:∀ b,v.ownBlock = some b → ok b) (ho:W.ownsRow 0 e 1 v n inner):(∀ b,v.ownBlock = some b → ok1 b) ∧ W1.ownsRow 0 e 1 v n inner:=by
 refine ⟨fun b hb=>?_,own_move ho (fun b hb=>?_)⟩
 ·obtain ⟨cs,hc⟩:=own_typed ho b hb
  exact (hm b _ _ (hv b hb) hc he).1
 ·obtain ⟨cs,hc⟩:=own_typed ho b hb
  exact (hm b _ _ (hv b hb) hc he).2.trans hc.symm
theorem RepV.step {W W1:World} {ok ok1:Nat → Prop} (hm:Mv W W1 ok ok1) {ns:List S50} {I p:Nat} (h:RepV W ok ns I p):RepV W1 ok1 ns I p:=by
 induction h with
 | leaf hl hp h hq hL=>
  obtain ⟨g0,g1⟩:=hm _ _ _ hp h hl.ty
  obtain ⟨q0,q1⟩:=hm.loc hq hL
  exact .leaf hl g0 g1 q0 q1
 | var hp h hq hL hx hN=>
  obtain ⟨g0,g1⟩:=hm _ _ _ hp h (by decide)
  obtain ⟨q0,q1⟩:=hm.loc hq hL
  obtain ⟨x0,x1⟩:=hm.name hx hN
  exact .var g0 g1 q0 q1 x0 x1
 | list hp h hq hL hv ho hi hk ih=>
  obtain ⟨g0,g1⟩:=hm _ _ _ hp h (by decide)
  obtain ⟨q0,q1⟩:=hm.loc hq hL
  obtain ⟨v0,v1⟩:=hm.row (by decide) hv ho
  exact .list g0 g1 q0 q1 v0 v1 hi ih
 | obj hp h hq hL hv ho hi hf hk ih=>
  obtain ⟨g0,g1⟩:=hm _ _ _ hp h (by decide)
  obtain ⟨q0,q1⟩:=hm.loc hq hL
  obtain ⟨v0,v1⟩:=hm.row (by decide) hv ho
  exact .obj g0 g1 q0 q1 v0 v1 hi (fun i hlt=>hm.field (hf i hlt)) ih
theorem Mv.of_heap {W W1:World} {ok ok1:Nat → Prop} (h:∀ k,ok k → k < W.heap.size → ok1 k ∧ W1.heap[k]? = W.heap[k]?):Mv W W1 ok ok1:=fun k T cs h0 h1 _=>by
 obtain ⟨a,b⟩:=h k h0 (blk_lt h1)
 exact ⟨a,b.trans h1⟩
theorem Mv.of_below {W W1:World} {ok:Nat → Prop} (h:Below W.heap.size W W1):Mv W W1 ok ok:=Mv.of_heap fun k h0 h1=>⟨h0,h.block k h1⟩
theorem Mv.of_keepX {W W1:World} {ok:Nat → Prop} (h:KeepX W W1):Mv W W1 ok ok:=fun k T cs h0 h1 hT=>⟨h0,h k T cs h1 (by rintro rfl;revert hT;decide) (by rintro rfl;revert hT;decide) (by rintro rfl;revert hT;decide)⟩
theorem Mv.mono {W:World} {ok ok1:Nat → Prop} (h:∀ k,ok k → ok1 k):Mv W W ok ok1:=fun k T cs h0 h1 _=>⟨h k h0,h1⟩
def kV:Kd (List S50) where
 sz:=1
 E:=TS
 K:=fun w ns cs=>∃ I p,cs = [.iface I (ptr p)] ∧ RepV w (fun _=>True) ns I p
 M:=fun w base ok ns cs=>∃ I p,cs = [.iface I (ptr p)] ∧ RepV w (fun k=>ok k ∧ base ≤ k) ns I p
 K_len:=by rintro w x cs ⟨I,p,rfl,-⟩;rfl
 K_one:=by rintro w x cs ⟨I,p,rfl,-⟩ u hu;rw [List.mem_singleton.1 hu];rfl
 K_below:=by rintro w w1 x cs hb ⟨I,p,rfl,h⟩;exact ⟨I,p,rfl,h.step (Mv.of_below hb)⟩
 K_of_M:=by rintro w base ok x cs ⟨I,p,rfl,h⟩;exact ⟨I,p,rfl,h.step (Mv.mono fun _ _=>trivial)⟩
 M_mono:=by rintro w base ok ok' x cs hok ⟨I,p,rfl,h⟩;exact ⟨I,p,rfl,h.step (Mv.mono fun k hk=>⟨hok k hk.1,hk.2⟩)⟩
 M_bound:=by
  rintro w base ok x cs ⟨I,p,rfl,h⟩
  exact ⟨I,p,rfl,h.step fun k T cs h0 h1 hT=>⟨⟨⟨h0.1,h0.2,blk_lt h1,T,hT,cs,h1⟩,h0.2⟩,h1⟩⟩
 M_move:=by rintro w w1 base ok x cs hm ⟨I,p,rfl,h⟩;exact ⟨I,p,rfl,h.step (Mv.of_heap fun k h0 _=>⟨h0,hm k h0.1⟩)⟩
 M_lower:=by rintro w base base' ok x cs hb ⟨I,p,rfl,h⟩;exact ⟨I,p,rfl,h.step (Mv.mono fun k hk=>⟨hk.1,Nat.le_trans hb hk.2⟩)⟩
def kF:Kd (ByteArray × List S50) where
 sz:=1
 E:=TS
 K:=fun w f cs=>∃ p v,cs = [ptr p] ∧ FieldAt w (fun _=>True) p f.1 v ∧ RepV w (fun _=>True) f.2 v.1 v.2
 M:=fun w base ok f cs=>∃ p v,cs = [ptr p] ∧ FieldAt w (fun k=>ok k ∧ base ≤ k) p f.1 v ∧ RepV w (fun k=>ok k ∧ base ≤ k) f.2 v.1 v.2
 K_len:=by rintro w x cs ⟨p,v,rfl,-⟩;rfl
 K_one:=by rintro w x cs ⟨p,v,rfl,-⟩ u hu;rw [List.mem_singleton.1 hu];rfl
 K_below:=by rintro w w1 x cs hb ⟨p,v,rfl,hf,h⟩;exact ⟨p,v,rfl,(Mv.of_below hb).field hf,h.step (Mv.of_below hb)⟩
 K_of_M:=by rintro w base ok x cs ⟨p,v,rfl,hf,h⟩;exact ⟨p,v,rfl,(Mv.mono fun _ _=>trivial).field hf,h.step (Mv.mono fun _ _=>trivial)⟩
 M_mono:=by rintro w base ok ok' x cs hok ⟨p,v,rfl,hf,h⟩;exact ⟨p,v,rfl,(Mv.mono fun k hk=>⟨hok k hk.1,hk.2⟩).field hf,h.step (Mv.mono fun k hk=>⟨hok k hk.1,hk.2⟩)⟩
 M_bound:=by
  rintro w base ok x cs ⟨p,v,rfl,hf,h⟩
  have hm:Mv w w (fun k=>ok k ∧ base ≤ k) (fun k=>(ok k ∧ base ≤ k ∧ k < w.heap.size ∧ ∃ q,q ∈ TS ∧ ∃ cells,w.heap[k]? = some (.cells cells q (0,0))) ∧ base ≤ k):=fun k T cs h0 h1 hT=>⟨⟨⟨h0.1,h0.2,blk_lt h1,T,hT,cs,h1⟩,h0.2⟩,h1⟩
  exact ⟨p,v,rfl,hm.field hf,h.step hm⟩
 M_move:=by
  rintro w w1 base ok x cs hm ⟨p,v,rfl,hf,h⟩
  have hm:Mv w w1 (fun k=>ok k ∧ base ≤ k) (fun k=>ok k ∧ base ≤ k):=Mv.of_heap fun k h0 _=>⟨h0,hm k h0.1⟩
  exact ⟨p,v,rfl,hm.field hf,h.step hm⟩
 M_lower:=by rintro w base base' ok x cs hb ⟨p,v,rfl,hf,h⟩;exact ⟨p,v,rfl,(Mv.mono fun k hk=>⟨hk.1,Nat.le_trans hb hk.2⟩).field hf,h.step (Mv.mono fun k hk=>⟨hk.1,Nat.le_trans hb hk.2⟩)⟩
theorem R_parts {α:Type} {d:Kd α} {e base:Nat} {ok:Nat → Prop} {W:World} {v:Value} {xs:List α} (h:d.R e W base ok v xs) (hs:d.sz = 1):∃ inner,W.ownsRow base e 1 v xs.length inner ∧ inner.length = xs.length ∧ ∀ (i:Nat) (hi:i < xs.length) (hi2:i < inner.length),d.M W base (fun k=>ok k ∧ some k ≠ v.ownBlock) xs[i] [inner[i]]:=by
 obtain ⟨h0,inner,ho,hl,hr⟩:=h
 rw [hs] at ho hl hr
 refine ⟨inner,ho,by omega,fun i hi hi2=>?_⟩
 have:=hr i xs[i] (List.getElem?_eq_getElem hi)
 rw [Nat.mul_one,List.drop_eq_getElem_cons hi2] at this
 exact this
theorem own_zero {W:World} {base e:Nat} {v:Value} {n:Nat} {inner:List Value} (h:W.ownsRow base e 1 v n inner):W.ownsRow 0 e 1 v n inner:=own_weaken h (Nat.zero_le _)
theorem RepV.mkList {W:World} {base p q:Nat} {k:ByteArray} {ok ok1:Nat → Prop} {v:Value} {nss:List (List S50)} (hR:kV.R 95 W base ok v nss) (hok:∀ k,ok k → base ≤ k → ok1 k) (hp:ok1 p) (h:W.heap[p]? = some (.cells #[.string k,ptr q,v] 159 (0,0))) (hq:ok1 q) (hL:LocAt W q):RepV W ok1 (made (nd 17 ⟨#[]⟩) nss) 156 p:=by
 obtain ⟨inner,ho,hl,hi⟩:=R_parts hR rfl
 have hc:∀ i:Nat,∃ u:Nat × Nat,∀ (hlt:i < nss.length),inner[i]? = some (.iface u.1 (ptr u.2)) ∧ RepV W ok1 nss[i] u.1 u.2:=by
  intro i
  by_cases hlt:i < nss.length
  ·obtain ⟨I,p,he,hr⟩:=hi i hlt (by omega)
   refine ⟨(I,p),fun _=>⟨?_,hr.step (Mv.mono fun k hk=>hok k hk.1.1 hk.2)⟩⟩
   rw [List.getElem?_eq_getElem (by omega)]
   injection he with he
   rw [he]
  ·exact ⟨(0,0),fun h=>absurd h hlt⟩
 obtain ⟨is,his⟩:=Classical.axiomOfChoice hc
 exact .list hp h hq hL (fun b hb=>hok b (hR.1 b hb) (own_base ho b hb)) (own_zero ho) (fun i hlt=>(his i hlt).1) (fun i hlt=>(his i hlt).2)
theorem RepV.mkObj {W:World} {base p q:Nat} {k:ByteArray} {ok ok1:Nat → Prop} {v:Value} {fs:List (ByteArray × List S50)} (hR:kF.R 164 W base ok v fs) (hok:∀ k,ok k → base ≤ k → ok1 k) (hp:ok1 p) (h:W.heap[p]? = some (.cells #[.string k,ptr q,v] 163 (0,0))) (hq:ok1 q) (hL:LocAt W q):RepV W ok1 (made (nd 18 ⟨#[]⟩) (fs.map fun f=>made (nd 19 f.1) [f.2])) 160 p:=by
 obtain ⟨inner,ho,hl,hi⟩:=R_parts hR rfl
 have hc:∀ i:Nat,∃ u:Nat × (Nat × Nat),∀ (hlt:i < fs.length),inner[i]? = some (ptr u.1) ∧ FieldAt W ok1 u.1 fs[i].1 u.2 ∧ RepV W ok1 fs[i].2 u.2.1 u.2.2:=by
  intro i
  by_cases hlt:i < fs.length
  ·obtain ⟨p,v,he,hf,hr⟩:=hi i hlt (by omega)
   refine ⟨(p,v),fun _=>⟨?_,(Mv.mono fun k hk=>hok k hk.1.1 hk.2).field hf,hr.step (Mv.mono fun k hk=>hok k hk.1.1 hk.2)⟩⟩
   rw [List.getElem?_eq_getElem (by omega)]
   injection he with he
   rw [he]
  ·exact ⟨(0,(0,0)),fun h=>absurd h hlt⟩
 obtain ⟨is,his⟩:=Classical.axiomOfChoice hc
 exact .obj (ps:=fun i=>(is i).1) (is:=fun i=>(is i).2) hp h hq hL (fun b hb=>hok b (hR.1 b hb) (own_base ho b hb)) (own_zero ho) (fun i hlt=>(his i hlt).1) (fun i hlt=>(his i hlt).2.1) (fun i hlt=>(his i hlt).2.2)
set_option maxHeartbeats 400000 in
theorem newInt_any (q p:Nat) (z:ByteArray) (s:ByteArray) (w:World) (h:w.heap[q]? = some (.cells #[.string z,ptr p,.string s] 146 (0,0))) :
  Calls Tryz.prog 125 #[ptr q] w fun e w'=>(∃ r k,e = .returned (ptr r) ∧ w.heap.size ≤ r ∧ w'.heap[r]? = some (.cells #[.string k,ptr p,.string s] 146 (0,0))) ∧ Below w.heap.size w w':=by
 have c1:=(blk_cell h 1).trans rfl
 have c2:=(blk_cell h 2).trans rfl
 clear h
 go_enter Tryz.func125,Tryz.ntmps125
 go_wp2_with fail
 go_region
 all_goals
  go_wp2_with fail
  go_ret
  refine ⟨⟨_,_,rfl,by simp,by first | exact blk_new _ _ | exact blk_new w.drew _⟩,by first | exact below_alloc (below_drew (Below.refl _ _)) _ | exact below_drew (below_alloc (Below.refl _ _) _)⟩
set_option maxHeartbeats 400000 in
theorem newFloat_any (q p:Nat) (z:ByteArray) (s:ByteArray) (w:World) (h:w.heap[q]? = some (.cells #[.string z,ptr p,.string s] 148 (0,0))) :
  Calls Tryz.prog 126 #[ptr q] w fun e w'=>(∃ r k,e = .returned (ptr r) ∧ w.heap.size ≤ r ∧ w'.heap[r]? = some (.cells #[.string k,ptr p,.string s] 148 (0,0))) ∧ Below w.heap.size w w':=by
 have c1:=(blk_cell h 1).trans rfl
 have c2:=(blk_cell h 2).trans rfl
 clear h
 go_enter Tryz.func126,Tryz.ntmps126
 go_wp2_with fail
 go_region
 all_goals
  go_wp2_with fail
  go_ret
  refine ⟨⟨_,_,rfl,by simp,by first | exact blk_new _ _ | exact blk_new w.drew _⟩,by first | exact below_alloc (below_drew (Below.refl _ _)) _ | exact below_drew (below_alloc (Below.refl _ _) _)⟩
set_option maxHeartbeats 400000 in
theorem newText_any (q p:Nat) (z:ByteArray) (s:ByteArray) (w:World) (h:w.heap[q]? = some (.cells #[.string z,ptr p,.string s] 150 (0,0))) :
  Calls Tryz.prog 160 #[ptr q] w fun e w'=>(∃ r k,e = .returned (ptr r) ∧ w.heap.size ≤ r ∧ w'.heap[r]? = some (.cells #[.string k,ptr p,.string s] 150 (0,0))) ∧ Below w.heap.size w w':=by
 have c1:=(blk_cell h 1).trans rfl
 have c2:=(blk_cell h 2).trans rfl
 clear h
 go_enter Tryz.func160,Tryz.ntmps160
 go_wp2_with fail
 go_region
 all_goals
  go_wp2_with fail
  go_ret
  refine ⟨⟨_,_,rfl,by simp,by first | exact blk_new _ _ | exact blk_new w.drew _⟩,by first | exact below_alloc (below_drew (Below.refl _ _)) _ | exact below_drew (below_alloc (Below.refl _ _) _)⟩
set_option maxHeartbeats 400000 in
theorem newEnum_any (q p:Nat) (z:ByteArray) (s:ByteArray) (w:World) (h:w.heap[q]? = some (.cells #[.string z,ptr p,.string s] 155 (0,0))) :
  Calls Tryz.prog 129 #[ptr q] w fun e w'=>(∃ r k,e = .returned (ptr r) ∧ w.heap.size ≤ r ∧ w'.heap[r]? = some (.cells #[.string k,ptr p,.string s] 155 (0,0))) ∧ Below w.heap.size w w':=by
 have c1:=(blk_cell h 1).trans rfl
 have c2:=(blk_cell h 2).trans rfl
 clear h
 go_enter Tryz.func129,Tryz.ntmps129
 go_wp2_with fail
 go_region
 all_goals
  go_wp2_with fail
  go_ret
  refine ⟨⟨_,_,rfl,by simp,by first | exact blk_new _ _ | exact blk_new w.drew _⟩,by first | exact below_alloc (below_drew (Below.refl _ _)) _ | exact below_drew (below_alloc (Below.refl _ _) _)⟩
set_option maxHeartbeats 400000 in
theorem newBool_any (q p:Nat) (z:ByteArray) (s:Bool) (w:World) (h:w.heap[q]? = some (.cells #[.string z,ptr p,.bool s] 153 (0,0))) :
  Calls Tryz.prog 128 #[ptr q] w fun e w'=>(∃ r k,e = .returned (ptr r) ∧ w.heap.size ≤ r ∧ w'.heap[r]? = some (.cells #[.string k,ptr p,.bool s] 153 (0,0))) ∧ Below w.heap.size w w':=by
 have c1:=(blk_cell h 1).trans rfl
 have c2:=(blk_cell h 2).trans rfl
 clear h
 go_enter Tryz.func128,Tryz.ntmps128
 go_wp2_with fail
 go_region
 all_goals
  go_wp2_with fail
  go_ret
  refine ⟨⟨_,_,rfl,by simp,by first | exact blk_new _ _ | exact blk_new w.drew _⟩,by first | exact below_alloc (below_drew (Below.refl _ _)) _ | exact below_drew (below_alloc (Below.refl _ _) _)⟩
set_option maxHeartbeats 400000 in
theorem newListV_any (q p:Nat) (z:ByteArray) (A:Option Addr) (n c:Nat) (w:World) (h:w.heap[q]? = some (.cells #[.string z,ptr p,.slice A n c] 159 (0,0))) :
  Calls Tryz.prog 156 #[ptr q] w fun e w'=>(∃ r k,e = .returned (ptr r) ∧ w.heap.size ≤ r ∧ w'.heap[r]? = some (.cells #[.string k,ptr p,.slice A n c] 159 (0,0))) ∧ Below w.heap.size w w':=by
 have c1:=(blk_cell h 1).trans rfl
 have c2:=(blk_cell h 2).trans rfl
 clear h
 go_enter Tryz.func156,Tryz.ntmps156
 go_wp2_with fail
 go_region
 all_goals
  go_wp2_with fail
  go_ret
  refine ⟨⟨_,_,rfl,by simp,by first | exact blk_new _ _ | exact blk_new w.drew _⟩,by first | exact below_alloc (below_drew (Below.refl _ _)) _ | exact below_drew (below_alloc (Below.refl _ _) _)⟩
set_option maxHeartbeats 400000 in
theorem newObjV_any (q p:Nat) (z:ByteArray) (A:Option Addr) (n c:Nat) (w:World) (h:w.heap[q]? = some (.cells #[.string z,ptr p,.slice A n c] 163 (0,0))) :
  Calls Tryz.prog 159 #[ptr q] w fun e w'=>(∃ r k,e = .returned (ptr r) ∧ w.heap.size ≤ r ∧ w'.heap[r]? = some (.cells #[.string k,ptr p,.slice A n c] 163 (0,0))) ∧ Below w.heap.size w w':=by
 have c1:=(blk_cell h 1).trans rfl
 have c2:=(blk_cell h 2).trans rfl
 clear h
 go_enter Tryz.func159,Tryz.ntmps159
 go_wp2_with fail
 go_region
 all_goals
  go_wp2_with fail
  go_ret
  refine ⟨⟨_,_,rfl,by simp,by first | exact blk_new _ _ | exact blk_new w.drew _⟩,by first | exact below_alloc (below_drew (Below.refl _ _)) _ | exact below_drew (below_alloc (Below.refl _ _) _)⟩
set_option maxHeartbeats 400000 in
theorem newVar_any (q:Nat) (z:ByteArray) (u1 u2:Value) (w:World) (h:w.heap[q]? = some (.cells #[.string z,u1,u2] 142 (0,0))) :
  Calls Tryz.prog 161 #[ptr q] w fun e w'=>e = .returned (ptr q) ∧ ∃ k,w' = w.setCell ⟨q,0,none⟩ (.string k):=by
 have c0:=(blk_cell h 0).trans rfl
 have f0:=blk_frozen h 0
 clear h
 go_enter Tryz.func161,Tryz.ntmps161
 go_wp2_with fail
 go_ret
 exact ⟨rfl,_,rfl⟩
set_option maxHeartbeats 400000 in
theorem newArg_any (q:Nat) (z:ByteArray) (u1 u2 u3:Value) (w:World) (h:w.heap[q]? = some (.cells #[.string z,u1,u2,u3] 171 (0,0))) :
  Calls Tryz.prog 163 #[ptr q] w fun e w'=>e = .returned (ptr q) ∧ ∃ k,w' = w.setCell ⟨q,0,none⟩ (.string k):=by
 have c0:=(blk_cell h 0).trans rfl
 have f0:=blk_frozen h 0
 clear h
 go_enter Tryz.func163,Tryz.ntmps163
 go_wp2_with fail
 go_ret
 exact ⟨rfl,_,rfl⟩
set_option maxHeartbeats 400000 in
theorem newField_any (q x p I v:Nat) (z:ByteArray) (w:World) (h:w.heap[q]? = some (.cells #[.string z,ptr x,ptr p,.iface I (ptr v)] 166 (0,0))) :
  Calls Tryz.prog 179 #[ptr q] w fun e w'=>(∃ r k,e = .returned (ptr r) ∧ w.heap.size ≤ r ∧ w'.heap[r]? = some (.cells #[.string k,ptr x,ptr p,.iface I (ptr v)] 166 (0,0))) ∧ Below w.heap.size w w':=by
 have c1:=(blk_cell h 1).trans rfl
 have c2:=(blk_cell h 2).trans rfl
 have c3:=(blk_cell h 3).trans rfl
 clear h
 go_enter Tryz.func179,Tryz.ntmps179
 go_wp2_with fail
 go_region
 all_goals
  go_wp2_with fail
  go_ret
  refine ⟨⟨_,_,rfl,by simp,by first | exact blk_new _ _ | exact blk_new w.drew _⟩,by first | exact below_alloc (below_drew (Below.refl _ _)) _ | exact below_drew (below_alloc (Below.refl _ _) _)⟩
def SpecR (l:List S24) (b:Bool) (R:List S50 × PS) (sure:Bool) (base:Nat) (e:Ending) (w':World):Prop:=
 (Refd l b R.2 ∧ e = .returned (.tuple #[.slice none 0 0,.int .i64 0,.bool false,.bool sure])) ∨
 (R.2.bad = false ∧ R.2.at_ = l.length ∧ b = false ∧ ∃ v,e = .returned (.tuple #[v,.int .i64 (-1),.bool true,.bool sure]) ∧ k50.R 50 w' base (fun _=>True) v R.1) ∨
 (R.2.bad = false ∧ R.2.at_ < l.length ∧ ∃ v,e = .returned (.tuple #[v,.int .i64 (rd_T24 l R.2.at_).f2,.bool true,.bool sure]) ∧ k50.R 50 w' base (fun _=>True) v R.1)
theorem lexR_length {s:ByteArray} (hs:s.size ≤ 2000) {l:List S24} {b u:Bool} (hR:lexR s = (l,b,u)):l.length ≤ 2000:=by
 have:=lexd_length s (fun p h1 h2=>(pt_tells s (by omega) p h1 h2).2) (s.size + 1) 0 false [] (by omega) (by omega) (by simp)
 rw [show lexd s (s.size + 1) 0 false [] = lexR s from rfl,hR] at this
 have h:(l.length:Int) ≤ s.size:=this
 omega
end Go.Proofs.YtbobbognjmofdaaGreatDoor.Lex
end
