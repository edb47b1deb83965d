import Derived.Test.YtbobbognjmofdaaGreatDoorV09
import Derived.Test.YtbobbognjmofdaaGreatDoorV08
import Derived.Shelf.Spec.DecodeRune
import Derived.Test.YtbobbognjmofdaaGreatDoorProg
import Derived.Test.YtbobbognjmofdaaGreatDoorV04
import Derived.RegionTactic
import Derived.BigRegion
import Derived.ChangeAlike
import Derived.Below
import Derived.Deep.Draws
import Derived.Deep.AppendLies
import Derived.Maps.AppendAt
import Derived.OwnWalk
import Derived.Laws.BytesArg
import Derived.Laws.MakeOwn
import Derived.Laws.OwnMore
import Derived.Deep.OwnRows
import Derived.Tactics
import Derived.Lib.ConvBytes
import Derived.Laws.Slices
import Derived.WalkKit
import Derived.KernelRfl
import Derived.RowKit3
import Derived.Deep.LoopGhost
import Derived.Deep.QuietTactic
import Derived.BigQuiet
import Derived.WideLaws
import Derived.Deep.DeepCutAuto
import Derived.Deep.CutBlock
import Derived.Deep.RegionHeld3
import Derived.Laws.Rows
import Derived.Lib.AppendStr
import Derived.ArgAppend
import Derived.Laws.IdiomCopy
import Derived.OrdersHeld
import Derived.Laws.BitsLemmas
import Derived.RowKit
import Derived.Test.YtbobbognjmofdaaGreatDoorV01
import Derived.Test.YtbobbognjmofdaaGreatDoorV02
import Derived.Test.YtbobbognjmofdaaGreatDoorV03
section
section
namespace Go.Proofs.YtbobbognjmofdaaGreatDoor.Lex
open Go.RowKit Go.Proofs.YtbobbognjmofdaaGreatDoorW.PrintWords Go.Proofs.YtbobbognjmofdaaGreatDoorW.PrintLast Go.Proofs.YtbobbognjmofdaaGreatDoorW.PrintMore
open Go.Proofs.YtbobbognjmofdaaGreatDoor.Ptext
set_option linter.unusedVariables false
set_option linter.unusedSimpArgs false
def stL (s:ByteArray):Int → List UInt8 → Bool
 | _,[]=>true
 | p,a :: r=>nx s p == (a.toNat:Int) && stL s (p + 1) r
theorem st3_L (s:ByteArray) (p:Int) (a b c:UInt8):stL s p [a,b,c] = st3 s p a.toNat b.toNat c.toNat:=by
 simp [stL,st3,show p + 1 + 1 = p + 2 by omega,Bool.and_assoc]
theorem stL_out (s:ByteArray):∀ (t:List UInt8) (p:Int),t ≠ [] → t.getLast? ≠ some 0 → (s.size:Int) < p + t.length → stL s p t = false
 | [],p,h,_,_=>absurd rfl h
 | [a],p,_,h,hp=>by
  have hn:nx s p = 0:=if_neg (by simp at hp;omega)
  have ha:(a.toNat:Int) ≠ 0:=by
   intro h0
   apply h
   have:a = 0:=UInt8.toNat_inj.1 (by simpa using h0)
   simp [this]
  simp [stL,hn,Ne.symm ha]
 | a :: b :: r,p,_,h,hp=>by
  have:=stL_out s (b :: r) (p + 1) (by simp) (by simpa using h) (by simp at hp ⊢;omega)
  rw [stL,this,Bool.and_false]
theorem stL_in (s:ByteArray):∀ (t:List UInt8) (p:Nat),p + t.length ≤ s.size → ((((Bv.by' s).take (p + t.length)).drop p) == t) = stL s p t
 | [],p,h=>by simp [stL]
 | a :: r,p,h=>by
  simp only [List.length_cons] at h ⊢
  have hlt:p < (Bv.by' s).length:=by rw [Bv.by_length];omega
  have e:((Bv.by' s).take (p + (r.length + 1))).drop p = (Bv.by' s)[p] :: ((Bv.by' s).take ((p + 1) + r.length)).drop (p + 1):=by
   rw [show p + (r.length + 1) = (p + 1) + r.length by omega]
   rw [List.drop_eq_getElem_cons (by rw [List.length_take];omega)]
   simp
  have ih:=stL_in s r (p + 1) (by omega)
  obtain ⟨c,hc1,hc2⟩:=Bv.bt_by (s:=s) (i:=p) (by omega)
  have hc:(Bv.by' s)[p] = c:=by
   have:=List.getElem?_eq_getElem hlt
   rw [this] at hc1
   exact Option.some.inj hc1
  rw [e,hc]
  have h2:nx s (p:Int) = (c.toNat:Int):=by rw [nx_bt (by omega),hc2]
  have h3:((p + 1:Nat):Int) = (p:Int) + 1:=by omega
  rw [stL,h2,← h3,← ih,List.cons_beq_cons]
  congr 1
  rw [Bool.eq_iff_iff,beq_iff_eq,beq_iff_eq]
  exact ⟨fun h=>by rw [h],fun h=>UInt8.toNat_inj.1 (by omega)⟩
theorem starts_tells (s:ByteArray) (t:List UInt8) (p:Int) (h0:0 ≤ p) (hp:p ≤ 100000) (hs:s.size ≤ 100000) (hn:t ≠ []) (hl:t.getLast? ≠ some 0) (ht:t.length ≤ 10) :
  PFnTokens.spec_starts.f s p ⟨t.toArray⟩ = some (stL s p t):=by
 unfold PFnTokens.spec_starts.f
 have hz:(⟨t.toArray⟩:ByteArray).size = t.length:=by simp [ByteArray.size]
 have hw:wrap64 (p + ((⟨t.toArray⟩:ByteArray).size:Int)) = p + (t.length:Int):=by rw [hz];exact wsm (by omega) (by omega)
 rw [hw]
 by_cases hle:p + (t.length:Int) ≤ (s.size:Int)
 ·rw [if_pos hle,if_pos h0,if_pos (by omega)]
  have e1:(s.extract p.toNat (p + (t.length:Int)).toNat).toList = ((Bv.by' s).take (p.toNat + t.length)).drop p.toNat:=by
   rw [Bv.extract_mk,show (p + (t.length:Int)).toNat = p.toNat + t.length by omega,ByteArray.toList_eq]
   exact Bv.by_mk _
  have e2:(⟨t.toArray⟩:ByteArray).toList = t:=by rw [ByteArray.toList_eq]
  rw [e1,e2,stL_in s t p.toNat (by omega),show ((p.toNat:Nat):Int) = p by omega]
 ·rw [if_neg hle,stL_out s t p hn hl (by omega)]
theorem sgn_tells (c:Int):PFnTokens.spec_sign.f c = some (sgn c):=by
 have key:∀ (q:Prop) [Decidable q] (a:Int) (x:Option Int) (y:Int),x = some y → (if q then some a else x) = some (if q then a else y):=by
  intro q _ a x y h
  by_cases hq:q
  ·rw [if_pos hq,if_pos hq]
  ·rw [if_neg hq,if_neg hq,h]
 unfold PFnTokens.spec_sign.f sgn
 repeat' (first | rfl | apply key)
def bvs (s:ByteArray):ByteArray:=Bv.mk (Bv.bvS (Bv.by' s))
def plainB (s:ByteArray):Bool:=Bv.plainL (Bv.sp false [] (Bv.by' s))
def ofBlk (p:Int):Option (Int × ByteArray) × Bool → Stp
 | (some q,u)=>.tok 19 (bvs q.2) q.1 (u || !plainB q.2)
 | (none,u)=>.bad p u
end Go.Proofs.YtbobbognjmofdaaGreatDoor.Lex
end
section
namespace Go.Proofs.YtbobbognjmofdaaGreatDoor.Lex
open Go.RowKit Go.Proofs.YtbobbognjmofdaaGreatDoorW.PrintWords Go.Proofs.YtbobbognjmofdaaGreatDoorW.PrintLast Go.Proofs.YtbobbognjmofdaaGreatDoorW.PrintMore
open Go.Proofs.YtbobbognjmofdaaGreatDoor.Ptext
set_option linter.unusedVariables false
set_option linter.unusedSimpArgs false
def stp (s:ByteArray) (p:Int) (u:Bool):Stp:=
 if bt s p = 32 ∨ bt s p = 9 ∨ bt s p = 10 ∨ bt s p = 13 ∨ bt s p = 44 then .skip (p + 1) u
 else if st3 s p 239 187 191 = true then .skip (p + 3) true
 else if bt s p = 35 then cm s (s.size + 1) p u
 else if st3 s p 46 46 46 = true then .tok 6 ⟨#[]⟩ (p + 3) u
 else if 0 < sgn (bt s p) then .tok (sgn (bt s p)) ⟨#[]⟩ (p + 1) u
 else if isBg (bt s p) = true then .tok 15 (s.extract p.toNat (nme s p).toNat) (nme s p) u
 else if bt s p = 45 ∨ isDg (bt s p) = true then nums s p u
 else if st3 s p 34 34 34 = true then ofBlk p (blk s (s.size + 1) (p + 3) ⟨#[]⟩ u)
 else if bt s p = 34 then ofTxt p 18 (txt s (s.size + 1) (p + 1) ⟨#[]⟩ u)
 else .bad p u
theorem after_stp (x:LS) (r:Option (Int × ByteArray) × Bool):x.after r = x.stp (ofTxt x.at_ 18 r):=by
 obtain ⟨a,b⟩:=r
 cases a <;> rfl
def Stp.uns:Stp → Bool
 | .skip _ u=>u
 | .bad _ u=>u
 | .tok _ _ _ u=>u
def Stp.fits (n p:Int):Stp → Prop
 | .skip q _=>p < q ∧ q ≤ n
 | .bad _ _=>True
 | .tok _ _ e _=>p < e ∧ e ≤ n
theorem cm_uns (s:ByteArray):∀ (k:Nat) (p:Int),(cm s k p true).uns = true
 | 0,p=>rfl
 | k + 1,p=>by
  rw [cm]
  split
  ·rfl
  ·split
   ·rfl
   ·split
    ·rfl
    ·exact cm_uns s k _
theorem txt_uns (s:ByteArray):∀ (k:Nat) (p:Int) (o:ByteArray),(txt s k p o true).2 = true
 | 0,p,o=>rfl
 | k + 1,p,o=>by
  rw [txt]
  (repeat' split) <;> first | rfl | exact txt_uns s k _ _
theorem blk_uns (s:ByteArray):∀ (k:Nat) (p:Int) (o:ByteArray),(blk s k p o true).2 = true
 | 0,p,o=>rfl
 | k + 1,p,o=>by
  rw [blk]
  (repeat' split) <;> first | rfl | exact blk_uns s k _ _
theorem ofTxt_uns (p k:Int) (r:Option (Int × ByteArray) × Bool):(ofTxt p k r).uns = r.2:=by
 obtain ⟨a,b⟩:=r
 cases a <;> rfl
theorem ofBlk_uns (p:Int) (r:Option (Int × ByteArray) × Bool) (h:r.2 = true):(ofBlk p r).uns = true:=by
 obtain ⟨a,b⟩:=r
 obtain rfl:b = true:=h
 cases a <;> simp [ofBlk,Stp.uns]
theorem nums_uns (s:ByteArray) (p:Int):(nums s p true).uns = true:=by
 unfold nums
 split
 ·rfl
 ·split <;> rfl
theorem stp_uns (s:ByteArray) (p:Int):(stp s p true).uns = true:=by
 unfold stp
 (repeat' split) <;> first | rfl | exact cm_uns _ _ _ | exact nums_uns _ _ | exact ofBlk_uns _ _ (blk_uns _ _ _ _) | (rw [ofTxt_uns];exact txt_uns _ _ _ _)
def nxt (s:ByteArray):Nat → Int → Bool → Option S24 × Bool
 | 0,_,u=>(some ⟨1,⟨#[]⟩,s.size,s.size⟩,u)
 | k + 1,p,u=>
  if (s.size:Int) ≤ p then (some ⟨1,⟨#[]⟩,s.size,s.size⟩,u)
  else match stp s p u with
   | .skip q u'=>nxt s k q u'
   | .bad _ u'=>(none,u')
   | .tok kd v e u'=>(some ⟨kd,v,p,e⟩,u')
theorem nxt_uns (s:ByteArray):∀ (k:Nat) (p:Int),(nxt s k p true).2 = true
 | 0,p=>rfl
 | k + 1,p=>by
  rw [nxt]
  have h:=stp_uns s p
  split
  ·rfl
  ·split
   ·rename_i q u' he
    rw [he] at h
    have h:u' = true:=h
    subst h
    exact nxt_uns s k _
   ·rename_i q u' he
    rw [he] at h
    exact h
   ·rename_i a b c u' he
    rw [he] at h
    exact h
theorem nxt_sure {s:ByteArray} {k:Nat} {p:Int} {u:Bool} {R:Option S24} (h:nxt s k p u = (R,false)):u = false:=by
 cases u with
 | false=>rfl
 | true=>
  have:=nxt_uns s k p
  rw [h] at this
  cases this
theorem cm_sure {s:ByteArray} {k:Nat} {p:Int} {u:Bool} (h:(cm s k p u).uns = false):u = false:=by
 cases u with
 | false=>rfl
 | true=>rw [cm_uns] at h;exact h
def Stp.fits0 (n p:Int):Stp → Prop
 | .skip q _=>p ≤ q ∧ q ≤ n
 | .bad _ _=>True
 | .tok _ _ _ _=>False
theorem Stp.fits0_mono {n p q:Int} {S:Stp} (h:S.fits0 n q) (hp:p ≤ q):S.fits0 n p:=by
 cases S with
 | skip a b=>exact ⟨Int.le_trans hp h.1,h.2⟩
 | bad a b=>trivial
 | tok a b c d=>exact h
theorem cm_fits (s:ByteArray) (hpt:∀ p:Int,0 ≤ p → p < s.size → ((ptS s p).2 = 0 ∨ 1 ≤ (ptS s p).2 ∧ (ptS s p).2 ≤ 4 ∧ p + (ptS s p).2 ≤ s.size)):∀ (k:Nat) (p:Int) (u:Bool),0 ≤ p → p ≤ s.size → (cm s k p u).fits0 s.size p
 | 0,p,u,h0,hp=>⟨Int.le_refl _,hp⟩
 | k + 1,p,u,h0,hp=>by
  rw [cm]
  by_cases h1:(s.size:Int) ≤ p
  ·rw [if_pos h1];exact ⟨Int.le_refl _,hp⟩
  ·rw [if_neg h1]
   by_cases h2:bt s p = 10 ∨ bt s p = 13
   ·rw [if_pos h2];exact ⟨Int.le_refl _,hp⟩
   ·rw [if_neg h2]
    by_cases h3:(ptS s p).2 = 0
    ·rw [if_pos h3];trivial
    ·rw [if_neg h3]
     have h4:=hpt p h0 (by omega)
     exact Stp.fits0_mono (cm_fits s hpt k (p + (ptS s p).2) _ (by omega) (by omega)) (by omega)
theorem txt_in (s:ByteArray) (hpt:∀ p:Int,0 ≤ p → p < s.size → ((ptS s p).2 = 0 ∨ 1 ≤ (ptS s p).2 ∧ (ptS s p).2 ≤ 4 ∧ p + (ptS s p).2 ≤ s.size)):∀ (k:Nat) (p:Int) (o:ByteArray) (u:Bool) (q:Int × ByteArray),0 ≤ p → (txt s k p o u).1 = some q → p < q.1 ∧ q.1 ≤ s.size
 | 0,p,o,u,q,h0,h=>by cases h
 | k + 1,p,o,u,q,h0,h=>by
  rw [txt] at h
  by_cases h1:(s.size:Int) ≤ p
  ·rw [if_pos h1] at h;cases h
  rw [if_neg h1] at h
  by_cases h2:bt s p = 34
  ·rw [if_pos h2] at h
   obtain rfl:=Option.some.inj h
   exact ⟨by show p < p + 1;omega,by show p + 1 ≤ _;omega⟩
  rw [if_neg h2] at h
  by_cases h3:bt s p = 10 ∨ bt s p = 13
  ·rw [if_pos h3] at h;cases h
  rw [if_neg h3] at h
  by_cases h4:bt s p = 92
  ·rw [if_pos h4] at h
   have hf:=(esc_facts s p).2
   by_cases h5:(esc s p).2.1 = 0
   ·rw [if_pos h5] at h;cases h
   ·rw [if_neg h5] at h
    have:=txt_in s hpt k _ _ _ q (by omega) h
    omega
  rw [if_neg h4] at h
  by_cases h5:(ptS s p).2 = 0
  ·rw [if_pos h5] at h;cases h
  rw [if_neg h5] at h
  by_cases h6:isSrc (ptS s p).1 = false
  ·rw [if_pos h6] at h;cases h
  rw [if_neg h6] at h
  have hp:=hpt p h0 (by omega)
  have:=txt_in s hpt k _ _ _ q (by omega) h
  omega
theorem st3_in {s:ByteArray} {p a b c:Int} (h:st3 s p a b c = true) (hc:c ≠ 0):p + 3 ≤ s.size:=by
 unfold st3 at h
 simp only [Bool.and_eq_true,beq_iff_eq] at h
 have:=nx_in (s:=s) (p:=p + 2) (by rw [h.2];exact hc)
 omega
theorem blk_in (s:ByteArray) (hpt:∀ p:Int,0 ≤ p → p < s.size → ((ptS s p).2 = 0 ∨ 1 ≤ (ptS s p).2 ∧ (ptS s p).2 ≤ 4 ∧ p + (ptS s p).2 ≤ s.size)):∀ (k:Nat) (p:Int) (o:ByteArray) (u:Bool) (q:Int × ByteArray),0 ≤ p → (blk s k p o u).1 = some q → p < q.1 ∧ q.1 ≤ s.size
 | 0,p,o,u,q,h0,h=>by cases h
 | k + 1,p,o,u,q,h0,h=>by
  rw [blk] at h
  by_cases h1:(s.size:Int) ≤ p
  ·rw [if_pos h1] at h;cases h
  rw [if_neg h1] at h
  by_cases h2:st3 s p 34 34 34 = true
  ·rw [if_pos h2] at h
   obtain rfl:=Option.some.inj h
   have:=st3_in h2 (by decide)
   exact ⟨by show p < p + 3;omega,this⟩
  rw [if_neg h2] at h
  by_cases h3:(bt s p == 92 && st3 s (p + 1) 34 34 34) = true
  ·rw [if_pos h3] at h
   have:=blk_in s hpt k _ _ _ q (by omega) h
   omega
  rw [if_neg h3] at h
  by_cases h5:(ptS s p).2 = 0
  ·rw [if_pos h5] at h;cases h
  rw [if_neg h5] at h
  by_cases h6:isSrc (ptS s p).1 = false
  ·rw [if_pos h6] at h;cases h
  rw [if_neg h6] at h
  have hp:=hpt p h0 (by omega)
  have:=blk_in s hpt k _ _ _ q (by omega) h
  omega
theorem stp_fits (s:ByteArray) (hpt:∀ p:Int,0 ≤ p → p < s.size → ((ptS s p).2 = 0 ∨ 1 ≤ (ptS s p).2 ∧ (ptS s p).2 ≤ 4 ∧ p + (ptS s p).2 ≤ s.size)) (p:Int) (u:Bool) (h0:0 ≤ p) (hp:p < s.size):(stp s p u).fits s.size p:=by
 unfold stp
 by_cases h1:bt s p = 32 ∨ bt s p = 9 ∨ bt s p = 10 ∨ bt s p = 13 ∨ bt s p = 44
 ·rw [if_pos h1];exact ⟨by omega,by omega⟩
 rw [if_neg h1]
 by_cases h2:st3 s p 239 187 191 = true
 ·rw [if_pos h2]
  have:=st3_in h2 (by decide)
  exact ⟨by omega,this⟩
 rw [if_neg h2]
 by_cases h3:bt s p = 35
 ·rw [if_pos h3,cm,if_neg (by omega),if_neg (by omega)]
  by_cases h4:(ptS s p).2 = 0
  ·rw [if_pos h4];trivial
  rw [if_neg h4]
  have hq:=hpt p h0 hp
  have:=cm_fits s hpt s.size (p + (ptS s p).2) (u || decide (65535 < (ptS s p).1) || !isSrc (ptS s p).1 || decide (128 ≤ (ptS s p).1)) (by omega) (by omega)
  cases hx:cm s s.size (p + (ptS s p).2) (u || decide (65535 < (ptS s p).1) || !isSrc (ptS s p).1 || decide (128 ≤ (ptS s p).1)) with
  | skip a b=>
   rw [hx] at this
   have h5:p + (ptS s p).2 ≤ a ∧ a ≤ s.size:=this
   exact ⟨by omega,h5.2⟩
  | bad a b=>trivial
  | tok a b c d=>rw [hx] at this;exact this.elim
 rw [if_neg h3]
 by_cases h4:st3 s p 46 46 46 = true
 ·rw [if_pos h4]
  have:=st3_in h4 (by decide)
  exact ⟨by omega,this⟩
 rw [if_neg h4]
 by_cases h5:0 < sgn (bt s p)
 ·rw [if_pos h5];exact ⟨by omega,by omega⟩
 rw [if_neg h5]
 by_cases h6:isBg (bt s p) = true
 ·rw [if_pos h6]
  have e:nme s p = nme s (p + 1):=by
   have hn:isNm (nx s p) = true:=by rw [nx_bt hp];unfold isNm;rw [h6];rfl
   rw [nme_eq,if_pos hn]
  have:=(nme_le s (p + 1)).1
  exact ⟨by rw [e];omega,(nme_le s p).2 (by omega)⟩
 rw [if_neg h6]
 by_cases h7:bt s p = 45 ∨ isDg (bt s p) = true
 ·rw [if_pos h7]
  unfold nums
  cases hn:num s p with
  | none=>trivial
  | some q=>
   obtain ⟨k,e⟩:=q
   have:=num_in hn
   show Stp.fits _ _ (if _ then _ else _)
   split
   ·trivial
   ·exact ⟨this.2.1,this.2.2⟩
 rw [if_neg h7]
 by_cases h8:st3 s p 34 34 34 = true
 ·rw [if_pos h8]
  have hb:=blk_in s hpt (s.size + 1) (p + 3) ⟨#[]⟩ u
  obtain ⟨r,hr⟩:∃ r,r = blk s (s.size + 1) (p + 3) ⟨#[]⟩ u:=⟨_,rfl⟩
  rw [← hr] at hb ⊢
  obtain ⟨a,b⟩:=r
  cases a with
  | none=>trivial
  | some q=>
   have:=hb q (by omega) rfl
   exact ⟨by omega,this.2⟩
 rw [if_neg h8]
 by_cases h9:bt s p = 34
 ·rw [if_pos h9]
  have hb:=txt_in s hpt (s.size + 1) (p + 1) ⟨#[]⟩ u
  obtain ⟨r,hr⟩:∃ r,r = txt s (s.size + 1) (p + 1) ⟨#[]⟩ u:=⟨_,rfl⟩
  rw [← hr] at hb ⊢
  obtain ⟨a,b⟩:=r
  cases a with
  | none=>trivial
  | some q=>
   have:=hb q (by omega) rfl
   exact ⟨by omega,this.2⟩
 rw [if_neg h9]
 trivial
end Go.Proofs.YtbobbognjmofdaaGreatDoor.Lex
end
section
namespace Go.Proofs
open Go.Shelf Go.RowKit
def Tryz.laysS32_ren:Go.Shelf.Ren:=⟨fun | 32=>137 | 49=>166 | n=>n,fun | 30=>74 | 21=>21 | 3=>3 | 0=>0 | 5=>5 | 4=>4 | 33=>180 | 66=>279 | 25=>113 | 69=>282 | 68=>281 | n=>n,fun | 2=>1 | 3=>2 | n=>n⟩
theorem Tryz.laysS32:Go.Proofs.Lays7.n32 Tryz.prog Tryz.laysS32_ren:={
 mixed:=by kernel_rfl
 f32:=Tryz.func137.trans (congrArg some (by kernel_rfl))
 f49:=Tryz.func166.trans (congrArg some (by kernel_rfl))
 t0:=Tryz.underlying0
 a0:=Tryz.isAgg0
 z0:=Tryz.sizeOf0
 v0:=Tryz.zeroValue0
 i0:=by kernel_rfl
 t3:=Tryz.underlying3
 a3:=Tryz.isAgg3
 z3:=Tryz.sizeOf3
 v3:=Tryz.zeroValue3
 i3:=by kernel_rfl
 t4:=Tryz.underlying4
 a4:=Tryz.isAgg4
 z4:=Tryz.sizeOf4
 v4:=Tryz.zeroValue4
 i4:=by kernel_rfl
 t5:=Tryz.underlying5
 a5:=Tryz.isAgg5
 z5:=Tryz.sizeOf5
 v5:=Tryz.zeroValue5
 i5:=by kernel_rfl
 t21:=Tryz.underlying21
 a21:=Tryz.isAgg21
 z21:=Tryz.sizeOf21
 v21:=Tryz.zeroValue21
 i21:=by kernel_rfl
 t25:=Tryz.underlying113
 a25:=Tryz.isAgg113
 z25:=Tryz.sizeOf113
 v25:=Tryz.zeroValue113
 i25:=by kernel_rfl
 t30:=Tryz.underlying74
 a30:=Tryz.isAgg74
 z30:=Tryz.sizeOf74
 v30:=Tryz.zeroValue74
 i30:=by kernel_rfl
 t33:=Tryz.underlying180
 a33:=Tryz.isAgg180
 z33:=Tryz.sizeOf180
 v33:=Tryz.zeroValue180
 i33:=by kernel_rfl
 t66:=Tryz.underlying279
 a66:=Tryz.isAgg279
 z66:=Tryz.sizeOf279
 t68:=Tryz.underlying281
 a68:=Tryz.isAgg281
 z68:=Tryz.sizeOf281
 v68:=Tryz.zeroValue281
 i68:=by kernel_rfl
 t69:=Tryz.underlying282
 a69:=Tryz.isAgg282
 z69:=Tryz.sizeOf282
 v69:=Tryz.zeroValue282
 i69:=by kernel_rfl
 g2:=by kernel_rfl
 g3:=by kernel_rfl
}
theorem Tryz.utf8_DecodeRune (s:ByteArray) (b off cap:Nat) (w:World) (hT:Lib.Utf8Tabs 1 2 w)
  (hp:∀ j,j < s.size → w.cell? ⟨b,off + j,none⟩ = some (.int .u8 (s.get! j).toNat)) :
  Calls Tryz.prog 137 #[.slice (some ⟨b,off,none⟩) s.size cap] w fun e w'=>e = .returned (.tuple #[.int .i32 (Lib.decodeGo s).1,.int .i64 (Lib.decodeGo s).2]) ∧ Below w.heap.size w w':=
 Any7.utf8_DecodeRune Tryz.laysS32 s b off cap w hT hp
end Go.Proofs
end
section
namespace Go.Proofs.YtbobbognjmofdaaGreatDoor.Lex
open Go.RowKit Go.Proofs.YtbobbognjmofdaaGreatDoorW.PrintWords Go.Proofs.YtbobbognjmofdaaGreatDoorW.PrintLast Go.Proofs.YtbobbognjmofdaaGreatDoorW.PrintMore
open Go.Proofs.YtbobbognjmofdaaGreatDoor.Ptext
set_option linter.unusedVariables false
set_option linter.unusedSimpArgs false
theorem tabs_below {w w':World} (h:Lib.Utf8Tabs 1 2 w) (hb:Below w.heap.size w w'):Lib.Utf8Tabs 1 2 w':=by
 have lt:∀ {a:Addr} {v:Value},w.cell? a = some v → a.block < w.heap.size:=fun {a v} hc=>by
  rcases Nat.lt_or_ge a.block w.heap.size with h' | h'
  ·exact h'
  ·simp [World.cell?,Array.getElem?_eq_none h'] at hc
 exact ⟨fun c hc=>(hb.cell (lt (h.1 c hc))).trans (h.1 c hc),fun i hi=>⟨(hb.cell (lt (h.2 i hi).1)).trans (h.2 i hi).1,(hb.cell (lt (h.2 i hi).2)).trans (h.2 i hi).2⟩⟩
structure Src (W:World) (b c:Nat) (s:ByteArray):Prop where
 cells:Kd.C (Kd.int .u8) W (some ⟨b,0,none⟩) s.size (bytesOf s)
 le:s.size ≤ c
 lt:b < W.heap.size
 tabs:Lib.Utf8Tabs 1 2 W
theorem Src.below {W W1:World} {b c:Nat} {s:ByteArray} (h:Src W b c s) (hb:Below W.heap.size W W1):Src W1 b c s:=
 ⟨Kd.C_below h.cells hb,h.le,Nat.lt_of_lt_of_le h.lt hb.size,tabs_below h.tabs hb⟩
theorem addr_add0 (b j:Nat):(⟨b,0,none⟩:Addr).add j = ⟨b,j,none⟩:=by
 unfold Addr.add
 split
 ·rename_i h;subst h;rfl
 ·rw [Nat.zero_add]
theorem Src.cell {W:World} {b c:Nat} {s:ByteArray} (h:Src W b c s) (i:Int) (h0:0 ≤ i) (hi:i < s.size):W.cell? ⟨b,i.toNat,none⟩ = some (.int .u8 (bt s i)):=by
 obtain ⟨ad,e,hx⟩:=Kd.at_int h.cells i h0 hi
 cases e
 rw [rd_bytesOf] at hx
 rw [← hx,addr_add0]
theorem get_extract (s:ByteArray) (a j:Nat):(s.extract a s.size).get! j = s.get! (a + j):=by
 simp only [ByteArray.get!,ByteArray.data_extract,getElem!_def,Array.getElem?_extract]
 have:s.size = s.data.size:=rfl
 by_cases h:a + j < s.data.size
 ·rw [if_pos (by omega)]
 ·rw [if_neg (by omega),Array.getElem?_eq_none (by omega)]
theorem decode_extract (s:ByteArray) (p:Nat) (hp:p < s.size):Lib.decodeGo (s.extract p s.size) = Utf8.decode s p:=by
 have hsz:(s.extract p s.size).size = s.size - p:=by rw [ByteArray.size_extract];omega
 rw [Lib.decodeGo,if_neg (by omega),Lib.decode_at,Lib.decode_at,hsz,get_extract,get_extract,get_extract,get_extract]
 rfl
set_option maxHeartbeats 400000 in
theorem runeAt_any (s:ByteArray) (b c:Nat) (p:Int) (w:World) (h:Src w b c s) (hs:s.size ≤ 2000) (h0:0 ≤ p) (hp:p ≤ 100000) :
  Calls Tryz.prog 95 #[.slice (some ⟨b,0,none⟩) s.size c,.int .i64 p] w fun e w'=>e = .returned (.tuple #[.int .i32 (rn s p).1,.int .i64 (rn s p).2]) ∧ Below w.heap.size w w':=by
 have HS:=Aside0.mk h
 clear h
 obtain ⟨R,hR⟩:∃ R,R = rn s p:=⟨_,rfl⟩
 rw [← hR]
 have HR:=Aside0.mk hR
 clear hR
 by_cases hlt:(s.size:Int) ≤ p
 ·have hfin:R = (-1,65533):=by rw [HR.out];exact rn_eof s p hlt
  have HF:=Aside0.mk hfin
  clear hfin
  go_enter Tryz.func95,Tryz.ntmps95
  go_wp2_with fail
  go_ret2
  rw [HF.out]
  exact ⟨rfl,Below.refl _ _⟩
 ·have hx:=HS.out.cell p h0 (by omega)
  have hr:=bt_range s p
  have hcap:(s.size:Int) ≤ (c:Int):=by have:=HS.out.le;omega
  have hp2:p < (s.size:Int):=by omega
  obtain ⟨v,hv⟩:∃ v,v = bt s p:=⟨_,rfl⟩
  rw [← hv] at hx hr
  have HV:=Aside0.mk hv
  clear hv
  by_cases hb:v < 128
  ·have hfin:R = (v,1):=by rw [HR.out,HV.out];exact rn_small s p h0 hp2 (by rw [← HV.out];exact hb)
   have HF:=Aside0.mk hfin
   clear hfin
   go_enter Tryz.func95,Tryz.ntmps95
   go_wp2_with fail
   go_ret2
   rw [HF.out]
   exact ⟨rfl,Below.refl _ _⟩
  ·have hsz:(s.extract p.toNat s.size).size = s.size - p.toNat:=by rw [ByteArray.size_extract];omega
   have hd:=Tryz.utf8_DecodeRune (s.extract p.toNat s.size) b p.toNat (c - p.toNat) w HS.out.tabs (fun j hj=>by
    rw [get_extract,← bt_get]
    have:=HS.out.cell ((p.toNat + j:Nat):Int) (by omega) (by omega)
    rwa [Int.toNat_natCast] at this)
   rw [hsz,decode_extract s p.toNat (by omega)] at hd
   have hfin:R = (((Utf8.decode s p.toNat).1:Int),((Utf8.decode s p.toNat).2:Int)):=by rw [HR.out];unfold rn;rw [if_neg (by omega)]
   obtain ⟨q1,q2⟩:=R
   obtain ⟨f1,f2⟩:=Prod.mk.inj hfin
   rw [← f1,← f2] at hd
   have HD:=Aside0.mk hd
   clear hd hsz f1 f2 hfin
   go_enter Tryz.func95,Tryz.ntmps95
   go_wp2_with fail
   refine HD.out.mono ?_
   rintro e w1 ⟨rfl,hb1⟩
   have HB1:=Aside0.mk hb1
   clear hb1
   go_wp2_with fail
   go_ret2
   exact ⟨rfl,HB1.out⟩
theorem decodeN_bom (n b0 b1 b2 b3:Nat) (h0:b0 < 256) (h1:b1 < 256) (h2:b2 < 256) (h3:b3 < 256) (h:(Lib.decodeN n b0 b1 b2 b3).1 = 65279):b0 = 239 ∧ b1 = 187 ∧ b2 = 191 ∧ 2 < n:=by
 unfold Lib.decodeN at h
 split at h
 ·simp only [] at h;omega
 split at h
 ·split at h <;> (simp only [] at h;omega)
 split at h
 ·split at h <;> (simp only [] at h;omega)
 split at h
 ·split at h <;> (simp only [] at h;omega)
 ·simp only [] at h;omega
theorem rn_bom (s:ByteArray) (p:Int) (h0:0 ≤ p) (hp:p < s.size) (h:(rn s p).1 = 65279):st3 s p 239 187 191 = true:=by
 rw [show rn s p = _ from if_neg (by omega),Lib.decode_at] at h
 obtain ⟨D,hD⟩:∃ D,D = Lib.decodeN (s.size - p.toNat) (s.get! p.toNat).toNat (s.get! (p.toNat + 1)).toNat (s.get! (p.toNat + 2)).toNat (s.get! (p.toNat + 3)).toNat:=⟨_,rfl⟩
 rw [← hD] at h
 have hd:D.1 = 65279:=by
  have h:((D.1:Nat):Int) = 65279:=h
  omega
 rw [hD] at hd
 obtain ⟨h1,h2,h3,h4⟩:=decodeN_bom _ _ _ _ _ (get_lt _ _) (get_lt _ _) (get_lt _ _) (get_lt _ _) hd
 have g0:=bt_get s p.toNat
 have g1:=bt_get s (p.toNat + 1)
 have g2:=bt_get s (p.toNat + 2)
 rw [show ((p.toNat:Nat):Int) = p by omega,h1] at g0
 rw [show ((p.toNat + 1:Nat):Int) = p + 1 by omega,h2] at g1
 rw [show ((p.toNat + 2:Nat):Int) = p + 2 by omega,h3] at g2
 unfold st3
 rw [nx_bt hp,nx_bt (p:=p + 1) (by omega),nx_bt (p:=p + 2) (by omega),g0,g1,g2]
 rfl
theorem stp_noskip {s:ByteArray} {p:Int} {u:Bool} (h1:¬ (bt s p = 32 ∨ bt s p = 9 ∨ bt s p = 10 ∨ bt s p = 13 ∨ bt s p = 44)) (h2:st3 s p 239 187 191 = false) (h3:bt s p ≠ 35) (q:Int) (v:Bool):stp s p u ≠ .skip q v:=by
 unfold stp
 rw [if_neg h1,if_neg (by simp [h2]),if_neg h3]
 split
 ·intro h;cases h
 split
 ·intro h;cases h
 split
 ·intro h;cases h
 split
 ·unfold nums
  split
  ·intro h;cases h
  ·split <;> (intro h;cases h)
 split
 ·obtain ⟨r,hr⟩:∃ r,r = blk s (s.size + 1) (p + 3) ⟨#[]⟩ u:=⟨_,rfl⟩
  rw [← hr]
  obtain ⟨a,b⟩:=r
  cases a <;> (intro h;cases h)
 split
 ·obtain ⟨r,hr⟩:∃ r,r = txt s (s.size + 1) (p + 1) ⟨#[]⟩ u:=⟨_,rfl⟩
  rw [← hr]
  obtain ⟨a,b⟩:=r
  cases a <;> (intro h;cases h)
 intro h;cases h
def Stp.says (q:Int):Stp → Option S24 → Prop
 | .skip _ _,_=>False
 | .bad _ u,R=>R = none ∧ u = false
 | .tok k v e u,R=>R = some ⟨k,v,q,e⟩ ∧ u = false
def Halt (s:ByteArray) (q:Int) (R:Option S24):Prop:=
 q = s.size ∧ R = some ⟨1,⟨#[]⟩,s.size,s.size⟩ ∨ q < s.size ∧ ¬ (bt s q = 32 ∨ bt s q = 9 ∨ bt s q = 10 ∨ bt s q = 13 ∨ bt s q = 44) ∧ st3 s q 239 187 191 = false ∧ bt s q ≠ 35 ∧ (stp s q false).says q R
theorem nxt_blank {s:ByteArray} {k:Nat} {p:Int} {R:Option S24} (hp:p < s.size) (h:bt s p = 32 ∨ bt s p = 9 ∨ bt s p = 10 ∨ bt s p = 13 ∨ bt s p = 44):nxt s (k + 1) p false = nxt s k (p + 1) false:=by
 rw [nxt,if_neg (by omega)]
 have:stp s p false = .skip (p + 1) false:=by unfold stp;rw [if_pos h]
 rw [this]
theorem nxt_bom {s:ByteArray} {k:Nat} {p:Int} {R:Option S24} (hp:p < s.size) (h:¬ (bt s p = 32 ∨ bt s p = 9 ∨ bt s p = 10 ∨ bt s p = 13 ∨ bt s p = 44)) (hN:nxt s (k + 1) p false = (R,false)):st3 s p 239 187 191 = false:=by
 cases hb:st3 s p 239 187 191 with
 | false=>rfl
 | true=>
  rw [nxt,if_neg (by omega)] at hN
  have:stp s p false = .skip (p + 3) true:=by unfold stp;rw [if_neg h,if_pos hb]
  rw [this] at hN
  have hN:nxt s k (p + 3) true = (R,false):=hN
  cases nxt_sure hN
theorem nxt_cm {s:ByteArray} {k:Nat} {p:Int} {R:Option S24} (hp:p < s.size) (h:bt s p = 35) (hN:nxt s (k + 1) p false = (R,false)):∃ a,cm s (s.size + 1) p false = .skip a false ∧ nxt s k a false = (R,false) ∨ ∃ a,cm s (s.size + 1) p false = .bad a false:=by
 have hb:=nxt_bom hp (by omega) hN
 rw [nxt,if_neg (by omega)] at hN
 have e:stp s p false = cm s (s.size + 1) p false:=by unfold stp;rw [if_neg (by omega),if_neg (by simp [hb]),if_pos h]
 rw [e] at hN
 cases hx:cm s (s.size + 1) p false with
 | skip a b=>
  rw [hx] at hN
  have hN:nxt s k a b = (R,false):=hN
  obtain rfl:=nxt_sure hN
  exact ⟨a,.inl ⟨rfl,hN⟩⟩
 | bad a b=>
  rw [hx] at hN
  have hN:(none,b) = (R,false):=hN
  obtain rfl:b = false:=(Prod.mk.inj hN).2
  exact ⟨a,.inr ⟨a,rfl⟩⟩
 | tok a b c d=>
  exfalso
  have:∀ (k:Nat) (p:Int) (u:Bool),cm s k p u ≠ .tok a b c d:=by
   intro k
   induction k with
   | zero=>intro p u h;cases h
   | succ k ih=>
    intro p u
    rw [cm]
    split
    ·intro h;cases h
    split
    ·intro h;cases h
    split
    ·intro h;cases h
    exact ih _ _
  exact this _ _ _ hx
theorem cm_bad (s:ByteArray):∀ (k:Nat) (p a:Int) (u b:Bool),cm s k p u = .bad a b → b = true
 | 0,p,a,u,b,h=>by cases h
 | k + 1,p,a,u,b,h=>by
  rw [cm] at h
  split at h
  ·cases h
  split at h
  ·cases h
  split at h
  ·injection h with h1 h2;exact h2.symm
  exact cm_bad s k _ _ _ _ h
theorem cm_sure2 (s:ByteArray):∀ (k:Nat) (p a:Int) (u:Bool),cm s k p u = .skip a false → u = false:=by
 intro k p a u h
 exact cm_sure (s:=s) (k:=k) (p:=p) (by rw [h];rfl)
theorem cm_step {s:ByteArray} (hs:s.size ≤ 2000) {k:Nat} {p a:Int} (h0:0 ≤ p) (hp:p ≤ s.size) (h:cm s (k + 1) p false = .skip a false) :
  (p = s.size ∨ p < s.size ∧ (bt s p = 10 ∨ bt s p = 13)) ∧ a = p ∨ p < s.size ∧ bt s p ≠ 10 ∧ bt s p ≠ 13 ∧ bt s p < 128 ∧ (bt s p = 9 ∨ 32 ≤ bt s p) ∧ cm s k (p + 1) false = .skip a false:=by
 rw [cm] at h
 by_cases h1:(s.size:Int) ≤ p
 ·rw [if_pos h1] at h
  injection h with h2
  exact .inl ⟨.inl (by omega),h2.symm⟩
 rw [if_neg h1] at h
 by_cases h2:bt s p = 10 ∨ bt s p = 13
 ·rw [if_pos h2] at h
  injection h with h3
  exact .inl ⟨.inr ⟨by omega,h2⟩,h3.symm⟩
 rw [if_neg h2] at h
 by_cases h3:(ptS s p).2 = 0
 ·rw [if_pos h3] at h;cases h
 rw [if_neg h3] at h
 have hf:=cm_sure2 s _ _ _ _ h
 have hr:=rn_pt s (by omega) p h0 (by omega) h3
 have hb:=rn_bounds s p h0 (by omega)
 rw [hr] at hb
 simp only [Bool.or_eq_false_iff,decide_eq_false_iff_not,Bool.not_eq_false',Bool.false_eq_true,false_or,Bool.or_eq_true] at hf
 have hlt:bt s p < 128:=by
  by_cases hx:128 ≤ bt s p
  ·have:=hb.2.2.2.2.2 hx;omega
  ·omega
 have hsm:=rn_small s p h0 (by omega) hlt
 rw [hr] at hsm
 rw [hsm] at h hf
 have hsr:isSrc (bt s p) = true:=by simpa using hf.1.2
 unfold isSrc at hsr
 simp only [Bool.or_eq_true,beq_iff_eq,decide_eq_true_eq] at hsr
 have hsrc:isSrc (bt s p) = true:=by simpa using hf.1.2
 have he:(false || decide (65535 < bt s p) || !isSrc (bt s p) || decide (128 ≤ bt s p)) = false:=by
  rw [hsrc,decide_eq_false (by omega:¬ 65535 < bt s p),decide_eq_false (by omega:¬ 128 ≤ bt s p)];rfl
 have h:cm s k (p + 1) (false || decide (65535 < bt s p) || !isSrc (bt s p) || decide (128 ≤ bt s p)) = .skip a false:=h
 rw [he] at h
 exact .inr ⟨by omega,fun h=>h2 (.inl h),fun h=>h2 (.inr h),hlt,by omega,h⟩
theorem nxt_halt {s:ByteArray} {k:Nat} {p:Int} {R:Option S24} (hp:p < s.size) (h1:¬ (bt s p = 32 ∨ bt s p = 9 ∨ bt s p = 10 ∨ bt s p = 13 ∨ bt s p = 44)) (h3:bt s p ≠ 35) (hN:nxt s (k + 1) p false = (R,false)):Halt s p R:=by
 have hb:=nxt_bom hp h1 hN
 refine .inr ⟨hp,h1,hb,h3,?_⟩
 rw [nxt,if_neg (by omega)] at hN
 cases hx:stp s p false with
 | skip a b=>exact (stp_noskip h1 hb h3 a b hx).elim
 | bad a b=>
  rw [hx] at hN
  have hN:(none,b) = (R,false):=hN
  exact ⟨(Prod.mk.inj hN).1.symm,(Prod.mk.inj hN).2⟩
 | tok a b c d=>
  rw [hx] at hN
  have hN:(some (⟨a,b,p,c⟩:S24),d) = (R,false):=hN
  exact ⟨(Prod.mk.inj hN).1.symm,(Prod.mk.inj hN).2⟩
set_option maxRecDepth 4000 in
set_option maxHeartbeats 4000000 in
theorem ws_any (s:ByteArray) (b c K:Nat) (p:Int) (R:Option S24) (w:World) (h:Src w b c s) (hs:s.size ≤ 2000) (h0:0 ≤ p) (hp:p ≤ s.size) (hK:(s.size:Int) < p + K) (hN:nxt s K p false = (R,false)) :
  Calls Tryz.prog 105 #[.slice (some ⟨b,0,none⟩) s.size c,.int .i64 p] w fun e w'=>(∃ q,e = .returned (.tuple #[.int .i64 q,.int .i64 q]) ∧ p ≤ q ∧ q ≤ s.size ∧ Halt s q R) ∧ Below w.heap.size w w':=by
 have HS:=Aside0.mk h
 have HN:=Aside0.mk hN
 clear h hN
 go_enter Tryz.func105,Tryz.ntmps105
 go_wp2_with fail
 go_loopg [4,5] K (fun kq v4 v5 wr=>∃ (q:Int),v4 = .int .i64 q ∧ v5 = .int .i64 q ∧ Aside0 (p ≤ q ∧ q ≤ s.size ∧ (s.size:Int) < q + kq ∧ nxt s kq q false = (R,false) ∧ Below w.heap.size w wr))
 case atStart=>exact ⟨p,rfl,rfl,⟨by omega,by omega,by omega,HN.out,Below.refl _ _⟩⟩
 case round=>
  obtain ⟨q,rfl,rfl,HA⟩:=hrel
  have hq1:=HA.out.1
  have hq2:=HA.out.2.1
  have HSr:=Aside0.mk (HS.out.below HA.out.2.2.2.2)
  have HBB:=Aside0.mk HA.out.2.2.2.2
  by_cases hlt:q < (s.size:Int)
  ·have hltb:decide (q < (s.size:Int)) = true:=decide_eq_true hlt
   obtain ⟨k,rfl⟩:∃ k,gk = k + 1:=⟨gk - 1,by have:=HA.out.2.2.1;omega⟩
   obtain ⟨⟨cd,n⟩,hrn⟩:∃ r,r = rn s q:=⟨_,rfl⟩
   obtain ⟨ch,hch⟩:∃ ch,ch = bt s q:=⟨_,rfl⟩
   have hrb:=rn_bounds s q (by omega) hlt
   rw [← hrn,← hch] at hrb
   have hcd:ch < 128 → cd = ch ∧ n = 1:=fun h=>by
    have:=rn_small s q (by omega) hlt (by rw [← hch];exact h)
    rw [← hrn,← hch] at this
    exact Prod.mk.inj this
   have HRN:=Aside0.mk hrn
   have HCH:=Aside0.mk hch
   clear hrn hch
   go_wp2_with fail
   refine (runeAt_any s b c q wr HSr.out hs (by omega) (by omega)).mono ?_
   rintro e w2 ⟨rfl,hb2⟩
   rw [← HRN.out]
   have HB2:=Aside0.mk (below_then HBB.out HBB.out.size hb2)
   have HS2:=Aside0.mk (HSr.out.below hb2)
   clear hb2
   by_cases e1:ch = 32 ∨ ch = 9 ∨ ch = 10 ∨ ch = 13 ∨ ch = 44
   ·obtain ⟨rfl,rfl⟩:=hcd (by omega)
    have hN2:nxt s k (q + 1) false = (R,false):=by rw [← nxt_blank (R:=R) hlt (by rw [← HCH.out];exact e1)];exact HA.out.2.2.2.1
    have HN2:=Aside0.mk hN2
    clear hN2 hrb hcd
    go_upto_region 6 with fail
    go_cut [45] (fun v45 wc=>v45 = .bool true ∧ wc = w2)
    case first=>
     rcases e1 with e | e | e | e | e
     all_goals
      subst e
      go_wp2_with fail
      go_meet
      case rel=>exact ⟨rfl,rfl⟩
    case rest=>
     obtain ⟨rfl,rfl⟩:=hcut
     clear e1
     go_wp2_with fail
     go_roundg k
     case measure=>omega
     case rel=>exact ⟨q + 1,rfl,rfl,⟨by omega,by omega,by have:=HA.out.2.2.1;omega,HN2.out,HB2.out⟩⟩
   have hbom:=nxt_bom hlt (by rw [← HCH.out];exact e1) HA.out.2.2.2.1
   have hcb:cd ≠ 65279:=fun h=>by
    have:=rn_bom s q (by omega) hlt (by rw [← HRN.out];exact h)
    rw [hbom] at this
    cases this
   clear hbom
   have n0:(cd == 65279) = false:=by simp [hcb]
   have n1:(cd == 9) = false:=by simp;omega
   have n2:(cd == 32) = false:=by simp;omega
   have n3:(cd == 10) = false:=by simp;omega
   have n4:(cd == 13) = false:=by simp;omega
   have n5:(cd == 44) = false:=by simp;omega
   by_cases e2:ch = 35
   ·obtain ⟨rfl,rfl⟩:=hcd (by omega)
    have n6:(cd == 35) = true:=by simp [e2]
    obtain ⟨a,hcm,hN2⟩:∃ a,cm s (s.size + 1) q false = .skip a false ∧ nxt s k a false = (R,false):=by
     obtain ⟨a,h⟩:=nxt_cm hlt (by rw [← HCH.out];exact e2) HA.out.2.2.2.1
     rcases h with h | ⟨a2,h⟩
     ·exact ⟨a,h⟩
     ·cases cm_bad _ _ _ _ _ _ h
    have hcm:cm s s.size (q + 1) false = .skip a false:=by
     rcases cm_step hs (by omega) (by omega) hcm with ⟨h,_⟩ | h
     ·rw [← HCH.out] at h;omega
     ·exact h.2.2.2.2.2
    have hal:a ≤ s.size ∧ q + 1 ≤ a:=by
     have:=cm_fits s (fun p h0 hp=>(pt_tells s (by omega) p h0 hp).2) s.size (q + 1) false (by omega) (by omega)
     rw [hcm] at this
     exact ⟨this.2,this.1⟩
    have HCM:=Aside0.mk hcm
    have HN2:=Aside0.mk hN2
    clear hcm hN2 hcd hrb hcb e1
    go_wp2_with fail
    obtain ⟨wo,rfl⟩:∃ wo:World,wo = wr:=⟨_,rfl⟩
    go_loopg [4,5] s.size (fun kq v4 v5 wr=>∃ (q2:Int),v4 = .int .i64 q2 ∧ v5 = .int .i64 q2 ∧ Aside0 (q + 1 ≤ q2 ∧ q2 ≤ s.size ∧ (s.size:Int) < q2 + kq ∧ cm s kq q2 false = .skip a false ∧ Below w.heap.size w wr))
    case atStart=>exact ⟨q + 1,rfl,rfl,⟨by omega,by omega,by omega,HCM.out,HB2.out⟩⟩
    case round=>
     obtain ⟨q2,rfl,rfl,HA2⟩:=hrel
     have hr1:=HA2.out.1
     have hr2:=HA2.out.2.1
     have HS3:=Aside0.mk (HS.out.below HA2.out.2.2.2.2)
     have HB3:=Aside0.mk HA2.out.2.2.2.2
     obtain ⟨k2,rfl⟩:∃ k2,gk = k2 + 1:=⟨gk - 1,by have:=HA2.out.2.2.1;omega⟩
     obtain ⟨⟨c2,n2_⟩,hrn⟩:∃ r,r = rn s q2:=⟨_,rfl⟩
     have HRN2:=Aside0.mk hrn
     have hst:=cm_step hs (by omega) hr2 HA2.out.2.2.2.1
     clear hrn
     go_wp2_with fail
     refine (runeAt_any s b c q2 wr HS3.out hs (by omega) (by omega)).mono ?_
     rintro e w4 ⟨rfl,hb4⟩
     rw [← HRN2.out]
     have HB4:=Aside0.mk (below_then HB3.out HB3.out.size hb4)
     clear hb4
     rcases hst with ⟨h1,h2⟩ | ⟨hlt2,h10,h13,h128,hsrc,hnext⟩
     ·subst h2
      rcases h1 with h1 | ⟨hlt2,h1⟩
      ·have hltb2:decide (a < (s.size:Int)) = false:=decide_eq_false (by omega)
       clear h1
       go_wp2_with fail
       go_roundg k
       case measure=>omega
       case rel=>exact ⟨a,rfl,rfl,⟨by omega,by omega,by have:=HA.out.2.2.1;omega,HN2.out,HB4.out⟩⟩
      ·have hltb2:decide (a < (s.size:Int)) = true:=decide_eq_true hlt2
       have hsm:=rn_small s a (by omega) hlt2 (by omega)
       rw [← HRN2.out] at hsm
       obtain ⟨rfl,rfl⟩:=Prod.mk.inj hsm
       clear hsm
       obtain ⟨d,hd⟩:∃ d,d = bt s a:=⟨_,rfl⟩
       rw [← hd] at h1
       rw [← hd]
       clear hd
       rcases h1 with rfl | rfl
       all_goals
        go_wp2_with fail
        go_roundg k
        case measure=>omega
        case rel=>exact ⟨a,rfl,rfl,⟨by omega,by omega,by have:=HA.out.2.2.1;omega,HN2.out,HB4.out⟩⟩
     ·have hltb2:decide (q2 < (s.size:Int)) = true:=decide_eq_true hlt2
      have hsm:=rn_small s q2 (by omega) hlt2 h128
      rw [← HRN2.out] at hsm
      obtain ⟨rfl,rfl⟩:=Prod.mk.inj hsm
      have HNX:=Aside0.mk hnext
      clear hsm hnext
      obtain ⟨d,hd⟩:∃ d,d = bt s q2:=⟨_,rfl⟩
      rw [← hd] at h10 h13 h128 hsrc
      rw [← hd]
      clear hd
      have m0:(d != 0) = true:=by simp;omega
      have m1:(d != 10) = true:=by simp [h10]
      have m2:(d != 13) = true:=by simp [h13]
      by_cases h9:d = 9
      ·have m3:decide (d > 31) = false:=decide_eq_false (by omega)
       have m4:(d == 9) = true:=by simp [h9]
       clear hsrc h9
       go_wp2_with fail
       go_roundg k2
       case measure=>omega
       case rel=>exact ⟨q2 + 1,rfl,rfl,⟨by omega,by omega,by have:=HA2.out.2.2.1;omega,HNX.out,HB4.out⟩⟩
      ·have m3:decide (d > 31) = true:=decide_eq_true (by omega)
       clear hsrc h9
       go_wp2_with fail
       go_roundg k2
       case measure=>omega
       case rel=>exact ⟨q2 + 1,rfl,rfl,⟨by omega,by omega,by have:=HA2.out.2.2.1;omega,HNX.out,HB4.out⟩⟩
   ·have n6:(cd == 35) = false:=by simp;omega
    have hfin:=nxt_halt hlt (by rw [← HCH.out];exact e1) (by rw [← HCH.out];exact e2) HA.out.2.2.2.1
    have HF:=Aside0.mk hfin
    clear hfin e1 e2 hcd hrb hcb
    go_wp2_with fail
    go_ret2
    exact ⟨⟨q,rfl,hq1,hq2,HF.out⟩,HB2.out⟩
  ·have hltb:decide (q < (s.size:Int)) = false:=decide_eq_false hlt
   have hfin:Halt s q R:=by
    refine .inl ⟨by omega,?_⟩
    have h:=HA.out.2.2.2.1
    cases gk with
    | zero=>rw [nxt] at h;exact (Prod.mk.inj h).1.symm
    | succ k=>rw [nxt,if_pos (by omega)] at h;exact (Prod.mk.inj h).1.symm
   have HF:=Aside0.mk hfin
   clear hfin
   go_wp2_with fail
   go_ret2
   exact ⟨⟨q,rfl,hq1,hq2,HF.out⟩,HBB.out⟩
theorem Lx.new (w:World) (base:Nat) (s:ByteArray) (i:Int) (hb:base ≤ w.heap.size) :
  Lx (w.alloc (.cells #[.string s,.int .i64 i,.slice none 0 0,.bool false,.bool false] 67)) base w.heap.size ⟨s,i,[],false,false⟩:=
 ⟨.slice none 0 0,heap_alloc_new _ _,hb,Kd.R_nil _ _ _ _ _⟩
end Go.Proofs.YtbobbognjmofdaaGreatDoor.Lex
end
section
namespace Go.Proofs.YtbobbognjmofdaaGreatDoor.PFnReadString
open Go.RowKit Go.Proofs.YtbobbognjmofdaaGreatDoorW.PrintWords Go.Proofs.YtbobbognjmofdaaGreatDoorW.PrintLast Go.Proofs.YtbobbognjmofdaaGreatDoorW.PrintMore
attribute [local go_sem] max2_int min2_int max_two min_two
set_option linter.unusedVariables false
set_option linter.unusedSimpArgs false
theorem info172:(Tryz.prog.info? 172).map (fun i=>(i.zero,i.size,i.bytes)) = some (some (.slice none 0 0),1,24):=by kernel_rfl
def rd_L1 (xs:List (List Int)) (i:Int):(List Int):=xs.getD i.toNat ([]:List Int)
theorem at_L1 {w:World} {A:Option Addr} {n:Nat} {xs:List (List Int)} (h:Kd.C (Kd.slice 3 (Kd.int .i64)) w A n xs) (i:Int) (h0:0 ≤ i) (h1:i < n):∃ ad A0 c0,A = some ad ∧ w.cell? (ad.add i.toNat) = some (.slice A0 (rd_L1 xs i).length c0) ∧ (rd_L1 xs i).length ≤ c0 ∧ (Kd.int .i64).C w A0 (rd_L1 xs i).length (rd_L1 xs i):=by
 obtain ⟨ad,c,e,_,hK,hc0⟩:=Kd.C_get h ([]:List Int) i h0 h1
 have hc:∀ j u,c[j]? = some u → w.cell? (ad.add (i.toNat * 1 + j)) = some u:=hc0
 obtain ⟨A0,c0,rfl,l0,g0⟩:=hK
 exact ⟨ad,A0,c0,e,by have hq:=hc 0 _ rfl;rwa [Nat.mul_one,Nat.add_zero] at hq,l0,g0⟩
end Go.Proofs.YtbobbognjmofdaaGreatDoor.PFnReadString
end
end
