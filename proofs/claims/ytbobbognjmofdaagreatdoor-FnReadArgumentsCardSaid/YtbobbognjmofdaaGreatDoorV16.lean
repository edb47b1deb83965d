import Derived.Test.YtbobbognjmofdaaGreatDoorV03
import Derived.BigFrame
section
section
namespace Go.Proofs.YtbobbognjmofdaaGreatDoor.Lex
open Go.RowKit Go.Proofs.YtbobbognjmofdaaGreatDoorW.PrintWords
set_option linter.unusedVariables false
set_option linter.unusedSimpArgs false
def eqOps (src slot c:Nat) (x:Int × String):Array Oper:=
 #[{ dst:=some c,op:=Op.binOp BinOp.eql 21 (Operand.tmp src) (Operand.const (Value.int IntKind.i32 x.1)) 21,type:=4,pos:=x.2,after:=#[],guard:=none },
  { dst:=some slot,op:=Op.assign (Operand.tmp c),type:=4,pos:=x.2,after:=#[{ on:=0,ground:=Ground.data }],guard:=none }]
def chainC (src slot:Nat):Nat → Nat → Int × String → List (Int × String) → Code
 | r,c,x,[]=>.region r (eqOps src slot c x) false
 | r,c,x,y :: l=>.seq (.region r (eqOps src slot c x) false) (.cond (.tmp slot) .skip (chainC src slot (r + 1) (c + 1) y l))
theorem eq_region {P:Program} {Q:Exit → Act → World → Prop} {L:List Value} {d:List Deferred} {w:World} {r src slot c:Nat} {x:Int × String} {cd:Int}
  (h1:L[src]? = some (.int .i32 cd)) (hc:c < L.length) (hne:slot ≠ c) (hs:src ≠ c)
  (
  hq:Q .normal ⟨((L.set c (.bool (cd == x.1))).set slot (.bool (cd == x.1))).toArray,d⟩ w) :
  (Code.region r (eqOps src slot c x) false).wp P Q ⟨L.toArray,d⟩ w:=by
 refine wp_region_list ?_
 show wpList P _ Q [_,_] _ _
 have e1:(⟨L.toArray,d⟩:Act).eval (.tmp src) = .int .i32 cd:=by
  obtain ⟨hl,he⟩:=List.getElem?_eq_some_iff.1 h1
  simp [Act.eval,Array.getD,hl,he]
 refine wpList_plain rfl (fun K hK=>?_)
 have e2:(execOp (⟨L.toArray,d⟩:Act).eval { dst:=some c,op:=Op.binOp BinOp.eql 21 (Operand.tmp src) (Operand.const (Value.int IntKind.i32 x.1)) 21,type:=4,pos:=x.2,after:=#[],guard:=none }).run P w = .ok (.value (.bool (cd == x.1))) w:=by
  unfold execOp
  simp only [e1,show (⟨L.toArray,d⟩:Act).eval (.const (Value.int IntKind.i32 x.1)) = .int .i32 x.1 from rfl]
  simp [go_sem]
 unfold Oper.wp
 rw [e2,Oper.upon_value]
 refine hK _ _ (wpList_plain rfl (fun K hK=>Go.BigFrame.wp_assign (.tmp c) rfl (hK _ _ (wpList_nil ?_))))
 have e3:((⟨L.toArray,d⟩:Act).put (some c) (.bool (cd == x.1))) = ⟨(L.set c (.bool (cd == x.1))).toArray,d⟩:=by
  simp [Act.put]
 show Q .normal (Act.put _ (some slot) (Act.eval _ (.tmp c))) w
 have e4:Act.eval ((⟨L.toArray,d⟩:Act).put (some c) (.bool (cd == x.1))) (.tmp c) = .bool (cd == x.1):=by
  rw [e3]
  simp [Act.eval,Array.getD,hc]
 have e5:Act.put ((⟨L.toArray,d⟩:Act).put (some c) (.bool (cd == x.1))) (some slot) (.bool (cd == x.1)) = ⟨((L.set c (.bool (cd == x.1))).set slot (.bool (cd == x.1))).toArray,d⟩:=by
  rw [e3]
  simp [Act.put]
 rw [show (Act.put ((⟨L.toArray,d⟩:Act).put (some c) (.bool (cd == x.1))) (some slot) (Act.eval ((⟨L.toArray,d⟩:Act).put (some c) (.bool (cd == x.1))) (.tmp c))) = _ from by rw [e4,e5]]
 exact hq
theorem set_mid (pre:List Value) (b v u:Value) (done rest tail:List Value) :
  ((pre ++ b :: (done ++ u :: rest) ++ tail).set (pre.length + 1 + done.length) v).set pre.length v = pre ++ v :: ((done ++ [v]) ++ rest) ++ tail:=by
 have e1:(pre ++ b :: (done ++ u :: rest) ++ tail).set (pre.length + 1 + done.length) v = pre ++ b :: (done ++ v :: rest) ++ tail:=by
  rw [List.append_assoc,List.set_append_right _ _ (by omega),show pre.length + 1 + done.length - pre.length = done.length + 1 by omega]
  rw [List.cons_append,List.set_cons_succ,List.append_assoc,List.set_append_right _ _ (Nat.le_refl _),Nat.sub_self]
  simp
 rw [e1,List.append_assoc,List.set_append_right _ _ (Nat.le_refl _),Nat.sub_self]
 simp
theorem chain_wp {P:Program} {Q:Exit → Act → World → Prop} {d:List Deferred} {w:World} {src:Nat} {cd:Int} (pre tail:List Value) (h1:pre[src]? = some (.int .i32 cd)) :
  ∀ (l:List (Int × String)) (x:Int × String) (r:Nat) (b:Value) (done rest:List Value),rest.length = l.length + 1 →
   (∀ vs:List Value,vs.length = done.length + (l.length + 1) → Q .normal ⟨(pre ++ .bool ((x :: l).any fun y=>cd == y.1) :: vs ++ tail).toArray,d⟩ w) →
   (chainC src pre.length r (pre.length + 1 + done.length) x l).wp P Q ⟨(pre ++ b :: (done ++ rest) ++ tail).toArray,d⟩ w:=by
 have hsrc:src < pre.length:=(List.getElem?_eq_some_iff.1 h1).1
 have look:∀ (b:Value) (m:List Value),(pre ++ b :: m ++ tail)[src]? = some (.int .i32 cd):=fun b m=>by
  rw [List.append_assoc,List.getElem?_append_left hsrc];exact h1
 intro l
 induction l with
 | nil=>
  intro x r b done rest hr hq
  obtain ⟨u,rfl⟩:∃ u,rest = [u]:=List.length_eq_one_iff.1 hr
  refine eq_region (cd:=cd) (look _ _) (by simp;omega) (by omega) (by omega) ?_
  rw [set_mid]
  have:=hq (done ++ [.bool (cd == x.1)]) (by simp)
  simpa using this
 | cons y l ih=>
  intro x r b done rest hr hq
  obtain ⟨u,rest,rfl⟩:∃ u r2,rest = u :: r2:=by
   cases rest with
   | nil=>simp at hr
   | cons u r2=>exact ⟨u,r2,rfl⟩
  refine wp_seq (eq_region (cd:=cd) (look _ _) (by simp;omega) (by omega) (by omega) ?_)
  rw [set_mid]
  show (Code.cond (.tmp pre.length) .skip (chainC src pre.length (r + 1) (pre.length + 1 + done.length + 1) y l)).wp P Q _ w
  have he:(⟨(pre ++ Value.bool (cd == x.1) :: (done ++ [Value.bool (cd == x.1)] ++ rest) ++ tail).toArray,d⟩:Act).eval (.tmp pre.length) = .bool (cd == x.1):=by
   simp [Act.eval,Array.getD]
  cases hx:(cd == x.1) with
  | true=>
   rw [hx] at he
   refine wp_cond_true he (wp_skip ?_)
   have:=hq (done ++ [.bool true] ++ rest) (by simp at hr ⊢;omega)
   simpa [hx] using this
  | false=>
   rw [hx] at he
   refine wp_cond_false he ?_
   have key:=ih y (r + 1) (.bool false) (done ++ [.bool false]) rest (by simpa using hr) (fun vs hv=>by
    have:=hq vs (by simp at hv ⊢;omega)
    simpa [hx] using this)
   simpa [Nat.add_assoc] using key
theorem chain_at {P:Program} {Q:Exit → Act → World → Prop} {d:List Deferred} {w:World} (src slot r n:Nat) (cd:Int) (B:Bool) (x:Int × String) (l:List (Int × String)) {L:List Value}
  (h1:L[src]? = some (.int .i32 cd)) (hs:src < slot) (hn:l.length + 1 = n) (hL:slot + 1 + n ≤ L.length) (hB:((x :: l).any fun y=>cd == y.1) = B)
  (hq:∀ vs:List Value,vs.length = n → Q .normal ⟨(L.take slot ++ .bool B :: vs ++ L.drop (slot + 1 + n)).toArray,d⟩ w) :
  (chainC src slot r (slot + 1) x l).wp P Q ⟨L.toArray,d⟩ w:=by
 subst hn
 have hl:slot < L.length:=by omega
 have e:L = L.take slot ++ L[slot] :: ([] ++ (L.drop (slot + 1)).take (l.length + 1)) ++ L.drop (slot + 1 + (l.length + 1)):=by
  have e2:(L.drop (slot + 1)).take (l.length + 1) ++ L.drop (slot + 1 + (l.length + 1)) = L.drop (slot + 1):=by
   have h:=List.take_append_drop (l.length + 1) (L.drop (slot + 1))
   rwa [List.drop_drop] at h
  rw [List.nil_append,List.append_assoc,List.cons_append,e2,← List.drop_eq_getElem_cons hl,List.take_append_drop]
 have hp:(L.take slot).length = slot:=by rw [List.length_take];omega
 have key:=chain_wp (P:=P) (Q:=Q) (d:=d) (w:=w) (cd:=cd) (src:=src) (L.take slot) (L.drop (slot + 1 + (l.length + 1))) (by rw [List.getElem?_take,if_pos hs];exact h1) l x r L[slot] [] ((L.drop (slot + 1)).take (l.length + 1)) (by rw [List.length_take,List.length_drop];omega)
  (fun vs hv=>by rw [hB];exact hq vs (by simpa using hv))
 rw [hp] at key
 rw [← e] at key
 exact key
end Go.Proofs.YtbobbognjmofdaaGreatDoor.Lex
end
end
