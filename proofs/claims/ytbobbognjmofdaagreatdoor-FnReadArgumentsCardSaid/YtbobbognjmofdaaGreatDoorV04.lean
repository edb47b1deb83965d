import Derived.Test.YtbobbognjmofdaaGreatDoorV03
import Derived.Test.YtbobbognjmofdaaGreatDoorProg
import Derived.Below
import Derived.Deep.Draws
import Derived.Deep.AppendLies
import Derived.Maps.AppendAt
import Derived.OwnWalk
import Derived.Laws.BytesArg
import Derived.Laws.MakeOwn
import Derived.Laws.OwnMore
import Derived.Deep.OwnRows
import Derived.Tactics
import Derived.Lib.ConvBytes
import Derived.Laws.Slices
import Derived.WalkKit
import Derived.KernelRfl
import Derived.RowKit3
import Derived.Deep.LoopGhost
import Derived.Deep.QuietTactic
import Derived.BigQuiet
import Derived.WideLaws
import Derived.Deep.DeepCutAuto
import Derived.Deep.CutBlock
import Derived.Deep.RegionHeld3
import Derived.Laws.Rows
import Derived.Lib.AppendStr
import Derived.ArgAppend
import Derived.Laws.IdiomCopy
import Derived.OrdersHeld
import Derived.Laws.BitsLemmas
import Derived.RowKit
import Derived.Test.YtbobbognjmofdaaGreatDoorV01
import Derived.Test.YtbobbognjmofdaaGreatDoorV02
section
namespace Go.Proofs.YtbobbognjmofdaaGreatDoor.Lex
open Go.RowKit Go.Proofs.YtbobbognjmofdaaGreatDoorW.PrintWords Go.Proofs.YtbobbognjmofdaaGreatDoorW.PrintLast Go.Proofs.YtbobbognjmofdaaGreatDoorW.PrintMore
open Go.Proofs.YtbobbognjmofdaaGreatDoor.Ptext
set_option linter.unusedVariables false
set_option linter.unusedSimpArgs false
def nd (k:Int) (name:ByteArray):S50:=⟨k,name,⟨#[]⟩,⟨#[]⟩,0,0⟩
theorem made_len (n:S50) (xss:List (List S50)):(made n xss).length = xss.flatten.length + 1:=rfl
theorem PS.ok.at {l:List S24} {x y:PS} (h:x.ok l) (e:y.at_ = x.at_):y.ok l:=⟨by rw [e];exact h.a0,by rw [e];exact h.a1,h.ll⟩
theorem PS.failed_at (x:PS):x.failed.at_ = x.at_:=by unfold PS.failed;split <;> rfl
theorem PS.failed_deep (x:PS):x.failed.deep = x.deep:=by unfold PS.failed;split <;> rfl
theorem PS.ok.failed {l:List S24} {x:PS} (h:x.ok l):x.failed.ok l:=h.at x.failed_at
theorem PS.ok.took {l:List S24} {x:PS} (h:x.ok l) {k:Int} (hk:k ≠ 1):(x.took l k).ok l:=by
 unfold PS.took
 cases ht:x.takes l k with
 | false=>simpa using h
 | true=>
  have:=PS.takes_lt ht hk
  have:=h.a0
  simp only [if_true]
  exact ⟨by show 0 ≤ x.at_ + 1;omega,by show x.at_ + 1 ≤ _;omega,h.ll⟩
theorem PS.ok.musted {l:List S24} {x:PS} (h:x.ok l) {k:Int} (hk:k ≠ 1):(x.musted l k).ok l:=by
 have ht:=h.took hk
 unfold PS.took at ht
 unfold PS.musted
 cases hx:x.takes l k with
 | false=>simpa using h.failed
 | true=>rw [hx] at ht;exact ht
theorem PS.ok.named {l:List S24} {x:PS} (h:x.ok l):(x.named l).2.ok l:=by
 have ht:=h.took (k:=15) (by decide)
 unfold PS.took at ht
 unfold PS.named
 cases hx:x.takes l 15 with
 | false=>simpa using h.failed
 | true=>rw [hx] at ht;exact ht
theorem PS.ok.entered {l:List S24} {x:PS} (h:x.ok l):x.entered.ok l:=by
 unfold PS.entered
 split
 ·exact PS.ok.failed (h.at rfl)
 ·exact h.at rfl
theorem PS.musted_deep (l:List S24) (x:PS) (k:Int):(x.musted l k).deep = x.deep:=by unfold PS.musted;split;rfl;exact PS.failed_deep x
theorem PS.named_deep (l:List S24) (x:PS):(x.named l).2.deep = x.deep:=by unfold PS.named;split;rfl;exact PS.failed_deep x
theorem PS.entered_deep (x:PS):x.entered.deep = x.deep + 1:=by unfold PS.entered;split;rw [PS.failed_deep];rfl
theorem kids_one {W:World} {base:Nat} {ok:Nat → Prop} {v:Value} {ys:List S50} (h:k50.R 50 W base ok v ys):Kd.C (Kd.slice 50 k50) (W.alloc (.cells #[v] 41)) (some ⟨W.heap.size,0,none⟩) [ys].length [ys]:=by
 obtain ⟨A,c,rfl,hc,hC⟩:=Kd.R_reads h
 refine ⟨rfl,by simp,fun _=>⟨_,rfl,fun j p hj=>?_⟩⟩
 cases j with
 | succ j=>simp at hj
 | zero=>
  obtain rfl:ys = p:=by simpa using hj
  refine ⟨[.slice A ys.length c],rfl,⟨A,c,rfl,hc,Kd.C_below hC (below_alloc (Below.refl _ _) _)⟩,fun i u hu=>?_⟩
  cases i with
  | succ i=>simp at hu
  | zero=>
   obtain rfl:Value.slice A ys.length c = u:=by simpa using hu
   rw [add_plain]
   exact (blk_cell (blk_new W (.cells #[.slice A ys.length c] 41)) 0).trans rfl
theorem kids_none (W:World):Kd.C (Kd.slice 50 k50) W none ([]:List (List S50)).length []:=⟨rfl,by simp,fun h=>absurd h (by simp)⟩
theorem PS.entered_ok {x:PS} (h:x.entered.bad = false):x.deep + 1 ≤ 60:=by
 unfold PS.entered at h
 split at h
 ·unfold PS.failed at h
  split at h <;> simp_all
 ·omega
theorem Px.keep {W W1:World} {base g:Nat} {l:List S24} {x:PS} {ok:Nat → Prop} {v:Value} {xs:List S50} (h:Px W base g l x) (hr:k50.R 50 W base ok v xs) (hw:W.grownBy W1 (some g)):k50.R 50 W1 base ok v xs:=by
 obtain ⟨u,hh,-,-⟩:=h
 exact R_grw hr hh (k50_ne (by decide)) hw
def wTrue:ByteArray:=⟨#[116,114,117,101]⟩
def wFalse:ByteArray:=⟨#[102,97,108,115,101]⟩
def wNull:ByteArray:=⟨#[110,117,108,108]⟩
def PS.next (x:PS):PS:={ x with at_:=x.at_ + 1 }
def loopd (c:Int) (f:PS → List S50 × PS) (l:List S24):Nat → PS → List (List S50) → List (List S50) × PS
 | 0,x,acc=>(acc,x)
 | k + 1,x,acc=>if x.bad = true then (acc,x) else if x.takes l c = true then (acc,x.next) else loopd c f l k (f x).2 (acc ++ [(f x).1])
def fieldd (l:List S24) (x:PS):PS:=(x.named l).2.musted l 7
def fldd (val:PS → List S50 × PS) (l:List S24) (x:PS):List S50 × PS:=(made (nd 19 (x.named l).1) [(val (fieldd l x)).1],(val (fieldd l x)).2)
def valT (val:PS → List S50 × PS) (l:List S24) (t:S24) (x:PS):List S50 × PS:=
 if t.f0 = 3 then (made (nd 11 (x.next.named l).1) [],(x.next.named l).2)
 else if t.f0 = 16 ∨ t.f0 = 17 then (made ⟨12 + t.f0 - 16,⟨#[]⟩,⟨#[]⟩,t.f1,0,0⟩ [],x.next)
 else if t.f0 = 18 ∨ t.f0 = 19 then (made ⟨14,⟨#[]⟩,⟨#[]⟩,t.f1,t.f0 - 18,0⟩ [],x.next)
 else if t.f0 = 15 then
  if t.f1 = wTrue then (made ⟨15,⟨#[]⟩,⟨#[]⟩,⟨#[]⟩,1,0⟩ [],x.next)
  else if t.f1 = wFalse then (made ⟨15,⟨#[]⟩,⟨#[]⟩,⟨#[]⟩,0,0⟩ [],x.next)
  else if t.f1 = wNull then ([],{ x.next with unsure:=true }.failed)
  else (made (nd 16 t.f1) [],x.next)
 else if t.f0 = 10 then (made (nd 17 ⟨#[]⟩) (loopd 11 val l 3001 x.next []).1,(loopd 11 val l 3001 x.next []).2)
 else if t.f0 = 12 then (made (nd 18 ⟨#[]⟩) (loopd 14 (fldd val l) l 3001 x.next []).1,(loopd 14 (fldd val l) l 3001 x.next []).2)
 else ([],x.failed)
def valH (val:PS → List S50 × PS) (l:List S24) (x:PS):List S50 × PS:=
 if x.at_ < l.length then valT val l (rd_T24 l x.at_) x else ([],x.failed)
def vald:Nat → List S24 → PS → List S50 × PS
 | 0,_,x=>([],PS.failed { x with deep:=x.deep + 1,unsure:=true })
 | n + 1,l,x=>
  if x.entered.bad = true then ([],x.entered)
  else ((valH (vald n l) l x.entered).1,(valH (vald n l) l x.entered).2.left)
structure Keeps (l:List S24) (n B:Nat) (x:PS) (r:List S50 × PS):Prop where
 ok:r.2.ok l
 at_:x.at_ ≤ r.2.at_
 on:x.at_ < r.2.at_ ∨ r.2.bad = true
 bad:x.bad = true → r.2.bad = true
 uns:x.unsure = true → r.2.unsure = true
 d0:x.deep ≤ r.2.deep
 d1:r.2.deep ≤ x.deep + n
 de:r.2.bad = false → r.2.deep = x.deep
 l0:r.2.bad = false → (r.1.length:Int) ≤ 3 * (r.2.at_ - x.at_)
 l1:(r.1.length:Int) ≤ 3 * (r.2.at_ - x.at_) + B
structure KeepsL (l:List S24) (n B:Nat) (x:PS) (acc:List (List S50)) (r:List (List S50) × PS):Prop where
 ok:r.2.ok l
 at_:x.at_ ≤ r.2.at_
 bad:x.bad = true → r.2.bad = true
 uns:x.unsure = true → r.2.unsure = true
 d0:x.deep ≤ r.2.deep
 d1:r.2.deep ≤ x.deep + n
 de:r.2.bad = false → r.2.deep = x.deep
 l0:r.2.bad = false → (r.1.flatten.length:Int) ≤ acc.flatten.length + 3 * (r.2.at_ - x.at_)
 l1:(r.1.flatten.length:Int) ≤ acc.flatten.length + 3 * (r.2.at_ - x.at_) + B
 many:(r.1.length:Int) ≤ acc.length + (r.2.at_ - x.at_) + 1
theorem PS.bad_failed (x:PS):x.failed.bad = true:=by unfold PS.failed;split;assumption;rfl
theorem PS.named_at (l:List S24) (x:PS):x.at_ ≤ (x.named l).2.at_ ∧ (x.at_ < (x.named l).2.at_ ∨ (x.named l).2.bad = true) ∧ (x.bad = true → (x.named l).2.bad = true):=by
 unfold PS.named
 split
 ·rename_i h
  refine ⟨by show x.at_ ≤ x.at_ + 1;omega,.inl (by show x.at_ < x.at_ + 1;omega),fun hb=>hb⟩
 ·exact ⟨by show x.at_ ≤ x.failed.at_;rw [PS.failed_at];exact Int.le_refl _,.inr (PS.bad_failed x),fun _=>PS.bad_failed x⟩
theorem PS.musted_at (l:List S24) (x:PS) (k:Int):x.at_ ≤ (x.musted l k).at_ ∧ (x.at_ < (x.musted l k).at_ ∨ (x.musted l k).bad = true) ∧ (x.bad = true → (x.musted l k).bad = true):=by
 unfold PS.musted
 split
 ·refine ⟨by show x.at_ ≤ x.at_ + 1;omega,.inl (by show x.at_ < x.at_ + 1;omega),fun hb=>hb⟩
 ·exact ⟨by rw [PS.failed_at];exact Int.le_refl _,.inr (PS.bad_failed x),fun _=>PS.bad_failed x⟩
theorem PS.uns_failed (x:PS):x.failed.unsure = x.unsure:=by unfold PS.failed;split <;> rfl
theorem PS.uns_musted (l:List S24) (x:PS) (k:Int):(x.musted l k).unsure = x.unsure:=by unfold PS.musted;split;rfl;exact PS.uns_failed x
theorem PS.uns_named (l:List S24) (x:PS):(x.named l).2.unsure = x.unsure:=by unfold PS.named;split;rfl;exact PS.uns_failed x
theorem PS.ok.next {l:List S24} {x:PS} (h:x.ok l) (hl:x.at_ < l.length):x.next.ok l:=⟨by have:=h.a0;show 0 ≤ x.at_ + 1;omega,by show x.at_ + 1 ≤ _;omega,h.ll⟩
theorem flat_snoc (acc:List (List S50)) (y:List S50):(acc ++ [y]).flatten.length = acc.flatten.length + y.length:=by simp
theorem KeepsL.here {l:List S24} {n B:Nat} {x:PS} {acc:List (List S50)} (h:x.ok l):KeepsL l n B x acc (acc,x):=
 ⟨h,Int.le_refl _,fun e=>e,fun e=>e,Int.le_refl _,by show x.deep ≤ x.deep + n;omega,fun _=>rfl,fun _=>by show (acc.flatten.length:Int) ≤ _ + 3 * (x.at_ - x.at_);omega,by show (acc.flatten.length:Int) ≤ _ + 3 * (x.at_ - x.at_) + (B:Int);omega,by show (acc.length:Int) ≤ _ + (x.at_ - x.at_) + 1;omega⟩
theorem loopd_keeps {c:Int} (hc:c ≠ 1) {f:PS → List S50 × PS} {l:List S24} {n B:Nat} (hv:∀ x:PS,x.ok l → Keeps l n B x (f x)) :
  ∀ (k:Nat) (x:PS) (acc:List (List S50)),x.ok l → (l.length:Int) < x.at_ + k → KeepsL l n B x acc (loopd c f l k x acc)
 | 0,x,acc,h,hk=>by have:=h.a1;omega
 | k + 1,x,acc,h,hk=>by
  rw [loopd]
  split
  ·exact KeepsL.here h
  ·rename_i hb
   have hb:x.bad = false:=by simpa using hb
   split
   ·rename_i ht
    have hlt:=PS.takes_lt ht hc
    exact ⟨h.next hlt,by show x.at_ ≤ x.at_ + 1;omega,fun e=>e,fun e=>e,Int.le_refl _,by show x.deep ≤ x.deep + n;omega,fun _=>rfl,fun _=>by show (acc.flatten.length:Int) ≤ _ + 3 * (x.at_ + 1 - x.at_);omega,by show (acc.flatten.length:Int) ≤ _ + 3 * (x.at_ + 1 - x.at_) + (B:Int);omega,by show (acc.length:Int) ≤ _ + (x.at_ + 1 - x.at_) + 1;omega⟩
   ·have hK:=hv x h
    obtain ⟨r,hr⟩:∃ r,r = f x:=⟨_,rfl⟩
    rw [← hr] at hK ⊢
    obtain ⟨h1,h2,h3,h4,h5,e0,e1,e2,e3,e4⟩:=hK
    cases hbr:r.2.bad with
    | false=>
     have h3':x.at_ < r.2.at_:=by rcases h3 with h3 | h3;exact h3;rw [hbr] at h3;cases h3
     have e2:=e2 hbr
     have e3:=e3 hbr
     obtain ⟨i1,i2,i3,i4,j0,j1,j2,j3,j4,j5⟩:=loopd_keeps hc hv k r.2 (acc ++ [r.1]) h1 (by omega)
     rw [flat_snoc] at j3 j4
     have hl:(acc ++ [r.1]).length = acc.length + 1:=by simp
     rw [hl] at j5
     exact ⟨i1,by omega,fun e=>absurd e (by rw [hb];decide),fun u=>i4 (h5 u),by omega,by omega,fun e=>by rw [j2 e];exact e2,fun e=>by have:=j3 e;omega,by omega,by omega⟩
    | true=>
     have hz:loopd c f l k r.2 (acc ++ [r.1]) = (acc ++ [r.1],r.2):=by
      cases k with
      | zero=>rfl
      | succ k=>rw [loopd,if_pos hbr]
     rw [hz]
     have hl:(acc ++ [r.1]).length = acc.length + 1:=by simp
     exact ⟨h1,h2,fun _=>hbr,h5,e0,e1,e2,fun e=>absurd (hbr.symm.trans e) (by decide),by show ((acc ++ [r.1]).flatten.length:Int) ≤ _;rw [flat_snoc];show _ ≤ _ + 3 * (r.2.at_ - x.at_) + (B:Int);omega,by show ((acc ++ [r.1]).length:Int) ≤ _;rw [hl];show _ ≤ _ + (r.2.at_ - x.at_) + 1;omega⟩
theorem fieldd_deep (l:List S24) (x:PS):(fieldd l x).deep = x.deep:=by unfold fieldd;rw [PS.musted_deep,PS.named_deep]
theorem fieldd_ok {l:List S24} {x:PS} (h:x.ok l):(fieldd l x).ok l:=h.named.musted (by decide)
theorem fldd_keeps {val:PS → List S50 × PS} {l:List S24} {n B:Nat} (hv:∀ x:PS,x.ok l → Keeps l n B x (val x)) (x:PS) (h:x.ok l):Keeps l n (B + 1) x (fldd val l x):=by
 obtain ⟨h1,h2,h3,h4,h5,e0,e1,e2,e3,e4⟩:=hv (fieldd l x) (fieldd_ok h)
 have a1:=PS.named_at l x
 have a2:=PS.musted_at l (x.named l).2 7
 have hd:=fieldd_deep l x
 have hu:(fieldd l x).unsure = x.unsure:=by unfold fieldd;rw [PS.uns_musted,PS.uns_named]
 have a3:(x.named l).2.at_ ≤ (fieldd l x).at_:=a2.1
 have hbad:x.bad = true → (fieldd l x).bad = true:=fun e=>a2.2.2 (a1.2.2 e)
 have hmid:(fieldd l x).bad = false → x.at_ + 2 ≤ (fieldd l x).at_:=fun e=>by
  have b1:(x.named l).2.at_ < (fieldd l x).at_:=by rcases a2.2.1 with q | q;exact q;exact absurd q (by show ¬ (fieldd l x).bad = true;rw [e];decide)
  have b2:x.at_ < (x.named l).2.at_:=by
   rcases a1.2.1 with q | q
   ·exact q
   ·exact absurd (a2.2.2 q) (by show ¬ (fieldd l x).bad = true;rw [e];decide)
  omega
 obtain ⟨r,hr⟩:∃ r,r = val (fieldd l x):=⟨_,rfl⟩
 unfold fldd
 rw [← hr] at h1 h2 h3 h4 h5 e0 e1 e2 e3 e4 ⊢
 have hm:(made (nd 19 (x.named l).1) [r.1]).length = r.1.length + 1:=by rw [made_len];simp
 refine ⟨h1,by show x.at_ ≤ r.2.at_;omega,?_,fun e=>h4 (hbad e),fun e=>h5 (by rw [hu];exact e),by show x.deep ≤ r.2.deep;omega,by show r.2.deep ≤ x.deep + n;omega,fun e=>by show r.2.deep = x.deep;rw [e2 e];exact hd,fun e=>?_,?_⟩
 ·show x.at_ < r.2.at_ ∨ r.2.bad = true
  rcases h3 with q | q
  ·exact .inl (by omega)
  ·exact .inr q
 ·show ((made (nd 19 (x.named l).1) [r.1]).length:Int) ≤ 3 * (r.2.at_ - x.at_)
  have e:r.2.bad = false:=e
  have:=e3 e
  have hf:(fieldd l x).bad = false:=by
   cases hq:(fieldd l x).bad with
   | false=>rfl
   | true=>rw [h4 hq] at e;cases e
  have:=hmid hf
  rw [hm];omega
 ·show ((made (nd 19 (x.named l).1) [r.1]).length:Int) ≤ 3 * (r.2.at_ - x.at_) + (B + 1:Nat)
  rw [hm];omega
theorem leaf_keeps {l:List S24} {n B:Nat} {x:PS} (h:x.ok l) (hl:x.at_ < l.length) (nd:S50):Keeps l n B x (made nd [],x.next):=
 ⟨h.next hl,by show x.at_ ≤ x.at_ + 1;omega,.inl (by show x.at_ < x.at_ + 1;omega),fun e=>e,fun e=>e,Int.le_refl _,by show x.deep ≤ x.deep + n;omega,fun _=>rfl,fun _=>by show ((made nd []).length:Int) ≤ 3 * (x.at_ + 1 - x.at_);rw [made_len];simp;omega,by show ((made nd []).length:Int) ≤ 3 * (x.at_ + 1 - x.at_) + (B:Int);rw [made_len];simp;omega⟩
theorem fail_keeps {l:List S24} {n B:Nat} {x y:PS} (h:y.ok l) (ha:x.at_ ≤ y.at_) (hd:y.deep = x.deep) (hu:x.unsure = true → y.unsure = true):Keeps l n B x ([],y.failed):=
 ⟨h.failed,by show x.at_ ≤ y.failed.at_;rw [PS.failed_at];exact ha,.inr (PS.bad_failed y),fun _=>PS.bad_failed y,fun e=>by show y.failed.unsure = true;rw [PS.uns_failed];exact hu e,by show x.deep ≤ y.failed.deep;rw [PS.failed_deep];omega,by show y.failed.deep ≤ x.deep + n;rw [PS.failed_deep];omega,fun e=>absurd (e.symm.trans (PS.bad_failed y)) (by decide),fun e=>absurd (e.symm.trans (PS.bad_failed y)) (by decide),by show ((([]:List S50).length:Nat):Int) ≤ 3 * (y.failed.at_ - x.at_) + (B:Int);rw [PS.failed_at];simp;omega⟩
theorem rounds_keeps {c:Int} (hc:c ≠ 1) {f:PS → List S50 × PS} {l:List S24} {n B:Nat} (hv:∀ x:PS,x.ok l → Keeps l n B x (f x)) {x:PS} (h:x.ok l) (hl:x.at_ < l.length) (q:S50) :
  Keeps l n (B + 1) x (made q (loopd c f l 3001 x.next []).1,(loopd c f l 3001 x.next []).2):=by
 have hk:=loopd_keeps hc hv 3001 x.next [] (h.next hl) (by have:=h.a0;have:=h.ll;show (l.length:Int) < x.at_ + 1 + (3001:Nat);omega)
 obtain ⟨r,hr⟩:∃ r,r = loopd c f l 3001 x.next []:=⟨_,rfl⟩
 rw [← hr] at hk ⊢
 obtain ⟨i1,i2,i3,i4,j0,j1,j2,j3,j4,j5⟩:=hk
 have i2:x.at_ + 1 ≤ r.2.at_:=i2
 have j3:r.2.bad = false → (r.1.flatten.length:Int) ≤ 0 + 3 * (r.2.at_ - (x.at_ + 1)):=j3
 have j4:(r.1.flatten.length:Int) ≤ 0 + 3 * (r.2.at_ - (x.at_ + 1)) + B:=j4
 refine ⟨i1,by show x.at_ ≤ r.2.at_;omega,.inl (by show x.at_ < r.2.at_;omega),i3,i4,j0,j1,j2,fun e=>?_,?_⟩
 ·show ((made q r.1).length:Int) ≤ 3 * (r.2.at_ - x.at_)
  have:=j3 e
  rw [made_len];omega
 ·show ((made q r.1).length:Int) ≤ 3 * (r.2.at_ - x.at_) + (B + 1:Nat)
  rw [made_len];omega
theorem Keeps.more {l:List S24} {n B C:Nat} {x:PS} {r:List S50 × PS} (h:Keeps l n B x r) (hB:B ≤ C):Keeps l n C x r:={ h with l1:=by have:=h.l1;omega }
theorem valT_keeps {val:PS → List S50 × PS} {l:List S24} {n B:Nat} (hv:∀ x:PS,x.ok l → Keeps l n B x (val x)) {x:PS} (h:x.ok l) (hl:x.at_ < l.length) (t:S24):Keeps l n (B + 2) x (valT val l t x):=by
 unfold valT
 repeat' split
 ·have a1:=PS.named_at l x.next
  refine ⟨(h.next hl).named,?_,?_,a1.2.2,fun e=>by show (x.next.named l).2.unsure = true;rw [PS.uns_named];exact e,by show x.deep ≤ (x.next.named l).2.deep;rw [PS.named_deep];exact Int.le_refl _,by show (x.next.named l).2.deep ≤ _;rw [PS.named_deep];show x.deep ≤ x.deep + n;omega,fun _=>by show (x.next.named l).2.deep = x.deep;rw [PS.named_deep];rfl,fun _=>?_,?_⟩
  ·have:x.at_ + 1 ≤ (x.next.named l).2.at_:=a1.1
   show x.at_ ≤ (x.next.named l).2.at_;omega
  ·have:x.at_ + 1 ≤ (x.next.named l).2.at_:=a1.1
   exact .inl (by show x.at_ < (x.next.named l).2.at_;omega)
  ·have:x.at_ + 1 ≤ (x.next.named l).2.at_:=a1.1
   show ((made _ []).length:Int) ≤ 3 * ((x.next.named l).2.at_ - x.at_)
   rw [made_len];simp;omega
  ·have:x.at_ + 1 ≤ (x.next.named l).2.at_:=a1.1
   show ((made _ []).length:Int) ≤ 3 * ((x.next.named l).2.at_ - x.at_) + (B + 2:Nat)
   rw [made_len];simp;omega
 ·exact leaf_keeps h hl _
 ·exact leaf_keeps h hl _
 ·exact leaf_keeps h hl _
 ·exact leaf_keeps h hl _
 ·exact fail_keeps (x:=x) (y:={ x.next with unsure:=true }) ((h.next hl).at rfl) (by show x.at_ ≤ x.at_ + 1;omega) rfl (fun _=>rfl)
 ·exact leaf_keeps h hl _
 ·exact (rounds_keeps (by decide) hv h hl _).more (by omega)
 ·exact rounds_keeps (by decide) (fldd_keeps hv) h hl _
 ·exact fail_keeps h (Int.le_refl _) rfl (fun e=>e)
theorem valH_keeps {val:PS → List S50 × PS} {l:List S24} {n B:Nat} (hv:∀ x:PS,x.ok l → Keeps l n B x (val x)) {x:PS} (h:x.ok l):Keeps l n (B + 2) x (valH val l x):=by
 unfold valH
 split
 ·rename_i hl
  exact valT_keeps hv h hl _
 ·exact fail_keeps h (Int.le_refl _) rfl (fun e=>e)
theorem PS.entered_at (x:PS):x.entered.at_ = x.at_:=by unfold PS.entered;split;exact PS.failed_at _;rfl
theorem PS.entered_bad (x:PS) (h:x.bad = true):x.entered.bad = true:=by unfold PS.entered;split;exact PS.bad_failed _;exact h
theorem PS.entered_unsure (x:PS) (h:x.unsure = true):x.entered.unsure = true:=by unfold PS.entered;split;rw [PS.uns_failed];exact h
theorem vald_keeps (l:List S24):∀ (n:Nat) (x:PS),x.ok l → Keeps l (n + 1) (2 * n) x (vald n l x)
 | 0,x,h=>by
  have hy:PS.ok l { x with deep:=x.deep + 1,unsure:=true }:=h.at rfl
  rw [vald]
  refine ⟨hy.failed,by show x.at_ ≤ (PS.failed _).at_;rw [PS.failed_at];exact Int.le_refl _,.inr (PS.bad_failed _),fun _=>PS.bad_failed _,fun _=>by show (PS.failed _).unsure = true;rw [PS.uns_failed],by show x.deep ≤ (PS.failed _).deep;rw [PS.failed_deep];show x.deep ≤ x.deep + 1;omega,by show (PS.failed _).deep ≤ _;rw [PS.failed_deep];show x.deep + 1 ≤ x.deep + (0 + 1:Nat);omega,fun e=>absurd (e.symm.trans (PS.bad_failed _)) (by decide),fun e=>absurd (e.symm.trans (PS.bad_failed _)) (by decide),by show ((([]:List S50).length:Nat):Int) ≤ 3 * ((PS.failed _).at_ - x.at_) + _;rw [PS.failed_at];simp⟩
 | n + 1,x,h=>by
  rw [vald]
  split
  ·rename_i hb
   refine ⟨h.entered,by show x.at_ ≤ x.entered.at_;rw [PS.entered_at];exact Int.le_refl _,.inr hb,fun _=>hb,PS.entered_unsure x,by show x.deep ≤ x.entered.deep;rw [PS.entered_deep];omega,by show x.entered.deep ≤ _;rw [PS.entered_deep];omega,fun e=>absurd (e.symm.trans hb) (by decide),fun e=>absurd (e.symm.trans hb) (by decide),by show ((([]:List S50).length:Nat):Int) ≤ 3 * (x.entered.at_ - x.at_) + _;rw [PS.entered_at];simp;omega⟩
  ·have hk:=valH_keeps (vald_keeps l n) h.entered
   have hd:=PS.entered_deep x
   have ha:=PS.entered_at x
   obtain ⟨r,hr⟩:∃ r,r = valH (vald n l) l x.entered:=⟨_,rfl⟩
   rw [← hr] at hk ⊢
   obtain ⟨h1,h2,h3,h4,h5,e0,e1,e2,e3,e4⟩:=hk
   rw [ha] at h2 h3 e3 e4
   rw [hd] at e0 e1 e2
   exact ⟨h1.at rfl,h2,h3,fun e=>h4 (PS.entered_bad x e),fun e=>h5 (PS.entered_unsure x e),by show x.deep ≤ r.2.deep - 1;omega,by show r.2.deep - 1 ≤ _;omega,fun e=>by show r.2.deep - 1 = x.deep;have:=e2 e;omega,e3,by show (r.1.length:Int) ≤ 3 * (r.2.at_ - x.at_) + _;omega⟩
end Go.Proofs.YtbobbognjmofdaaGreatDoor.Lex
end
section
section
namespace Go.Proofs.YtbobbognjmofdaaGreatDoor.Ptext
open Go.RowKit Go.Proofs.YtbobbognjmofdaaGreatDoorW.PrintWords Go.Proofs.YtbobbognjmofdaaGreatDoorW.PrintLast Go.Proofs.YtbobbognjmofdaaGreatDoorW.PrintMore
attribute [local go_sem] max2_int min2_int max_two min_two
set_option linter.unusedVariables false
set_option linter.unusedSimpArgs false
mutual
def spec_hexadecimal.j0:Nat → Int → Bool → Option (Int)
 | 0,_,_=>none
 | k + 1,x0,x3=>if x3 = true then (some ((x0 - 48) % 256)) else (if x0 ≥ 97 then (spec_hexadecimal.j1 k x0 (decide (x0 ≤ 102))) else (spec_hexadecimal.j1 k x0 false))
def spec_hexadecimal.j1:Nat → Int → Bool → Option (Int)
 | 0,_,_=>none
 | k + 1,x0,x13=>if x13 = true then (some (((x0 - 97) % 256) + 10)) else (if x0 ≥ 65 then (if x0 ≤ 70 then (some (((x0 - 65) % 256) + 10)) else (some (-1))) else (some (-1)))
end
def spec_hexadecimal.f (k:Nat) (a0:Int):Option (Int):=if a0 ≥ 48 then (spec_hexadecimal.j0 k a0 (decide (a0 ≤ 57))) else (spec_hexadecimal.j0 k a0 false)
set_option maxHeartbeats 8000000 in
set_option maxRecDepth 100000 in
theorem spec_hexadecimal.calls (k:Nat) (a0:Int) (r:Int) (w:World) (h:spec_hexadecimal.f k a0 = some r) :
  Calls Tryz.prog 93 #[.int .u8 a0] w fun e w'=>e = .returned (.int .i64 r) ∧ Drawn0 w w':=by
 have H:(if a0 ≥ 48 then (spec_hexadecimal.j0 k a0 (decide (a0 ≤ 57))) else (spec_hexadecimal.j0 k a0 false)) = some r:=h
 clear h
 have HC2:=Aside0.mk H
 clear H
 go_enter Tryz.func93,Tryz.ntmps93
 go_upto_region 1 with (fail)
 go_cut [3] (fun v3 wc=>∃ (kq:Nat) (x3_1:Bool),v3 = .bool x3_1 ∧ Aside0 (spec_hexadecimal.j0 kq a0 x3_1 = some r) ∧ Aside0 (kq ≤ k) ∧ Drawn0 w wc)
 case first=>
  have H:=HC2.out
  clear HC2
  by_cases c3:a0 ≥ 48
  ·rw [if_pos c3] at H
   have c3b0:decide (48 ≤ a0) = true:=decide_eq_true c3
   clear c3
   (first | rw [c3b0] | (simp only [i64_w,i32_w];rw [c3b0]) | skip)
   have H':=Aside0.mk H
   clear H
   go_wp2
   go_meet
   case rel=>exact ⟨_,(decide (a0 ≤ 57)),(by first | rfl | (simp;done) | (simp [*];done)),H',⟨by first | omega | exact Nat.le_refl _⟩,by repeat (first | exact Drawn0.refl _ | apply Drawn0.step)⟩
  ·rw [if_neg c3] at H
   have c3b0:decide (48 ≤ a0) = false:=decide_eq_false c3
   clear c3
   (first | rw [c3b0] | (simp only [i64_w,i32_w];rw [c3b0]) | skip)
   have H':=Aside0.mk H
   clear H
   go_wp2
   go_meet
   case rel=>exact ⟨_,(false),(by first | rfl | (simp;done) | (simp [*];done)),H',⟨by first | omega | exact Nat.le_refl _⟩,by repeat (first | exact Drawn0.refl _ | apply Drawn0.step)⟩
 case rest=>
  clear HC2
  try clear p2
  try clear c3
  try clear c3b0
  obtain ⟨kq,x3_1,rfl,HA,HJ1,⟨mc1,rfl⟩⟩:=hcut
  cases kq with
  | zero=>exact absurd HA.out (by simp [spec_hexadecimal.j0])
  | succ kj1=>
   have H:=HA.out
   clear HA
   simp only [spec_hexadecimal.j0] at H
   by_cases c4:x3_1 = true
   ·subst c4
    have H1:(some ((a0 - 48) % 256)) = some r:=by rw [if_pos rfl] at H;exact H
    clear H
    have H:=H1
    clear H1
    obtain rfl:=Option.some.inj H
    go_wp2
    go_ret
    exact ⟨by first | rfl | (simp;done) | (simp [*];done),by repeat (first | exact Drawn0.refl _ | apply Drawn0.step)⟩
   ·replace c4:=Bool.eq_false_iff.mpr c4
    subst c4
    have H1:(if a0 ≥ 97 then (spec_hexadecimal.j1 kj1 a0 (decide (a0 ≤ 102))) else (spec_hexadecimal.j1 kj1 a0 false)) = some r:=by rw [if_neg (show ¬ (false = true) by decide)] at H;exact H
    clear H
    have H:=H1
    clear H1
    have HC5:=Aside0.mk H
    clear H
    go_upto_region 3 with (fail)
    go_cut [13] (fun v13 wc=>∃ (kq:Nat) (x13_4:Bool),v13 = .bool x13_4 ∧ Aside0 (spec_hexadecimal.j1 kq a0 x13_4 = some r) ∧ Aside0 (kq ≤ kj1) ∧ Drawn0 w wc)
    case first=>
     have H:=HC5.out
     clear HC5
     by_cases c6:a0 ≥ 97
     ·rw [if_pos c6] at H
      have c6b0:decide (97 ≤ a0) = true:=decide_eq_true c6
      clear c6
      (first | rw [c6b0] | (simp only [i64_w,i32_w];rw [c6b0]) | skip)
      have H':=Aside0.mk H
      clear H
      go_wp2
      go_meet
      case rel=>exact ⟨_,(decide (a0 ≤ 102)),(by first | rfl | (simp;done) | (simp [*];done)),H',⟨by have:=HJ1.out;first | omega | exact Nat.le_refl _⟩,by repeat (first | exact Drawn0.refl _ | apply Drawn0.step)⟩
     ·rw [if_neg c6] at H
      have c6b0:decide (97 ≤ a0) = false:=decide_eq_false c6
      clear c6
      (first | rw [c6b0] | (simp only [i64_w,i32_w];rw [c6b0]) | skip)
      have H':=Aside0.mk H
      clear H
      go_wp2
      go_meet
      case rel=>exact ⟨_,(false),(by first | rfl | (simp;done) | (simp [*];done)),H',⟨by have:=HJ1.out;first | omega | exact Nat.le_refl _⟩,by repeat (first | exact Drawn0.refl _ | apply Drawn0.step)⟩
    case rest=>
     clear HC5
     try clear c1
     try clear p2
     try clear c3
     try clear c3b0
     try clear c4
     try clear c6
     try clear c6b0
     try clear p2
     obtain ⟨kq,x13_4,rfl,HA,HJ4,⟨mc4,rfl⟩⟩:=hcut
     cases kq with
     | zero=>exact absurd HA.out (by simp [spec_hexadecimal.j1])
     | succ kj4=>
      have H:=HA.out
      clear HA
      simp only [spec_hexadecimal.j1] at H
      by_cases c7:x13_4 = true
      ·subst c7
       have H1:(some (((a0 - 97) % 256) + 10)) = some r:=by rw [if_pos rfl] at H;exact H
       clear H
       have H:=H1
       clear H1
       obtain rfl:=Option.some.inj H
       go_wp2
       go_ret
       exact ⟨by first | rfl | (simp;done) | (simp [*];done),by repeat (first | exact Drawn0.refl _ | apply Drawn0.step)⟩
      ·replace c7:=Bool.eq_false_iff.mpr c7
       subst c7
       have H1:(if a0 ≥ 65 then (if a0 ≤ 70 then (some (((a0 - 65) % 256) + 10)) else (some (-1))) else (some (-1))) = some r:=by rw [if_neg (show ¬ (false = true) by decide)] at H;exact H
       clear H
       have H:=H1
       clear H1
       by_cases c8:a0 ≥ 65
       ·rw [if_pos c8] at H
        have c8b0:decide (65 ≤ a0) = true:=decide_eq_true c8
        clear c8
        by_cases c9:a0 ≤ 70
        ·rw [if_pos c9] at H
         have c9b0:decide (a0 ≤ 70) = true:=decide_eq_true c9
         clear c9
         obtain rfl:=Option.some.inj H
         go_wp2
         go_ret
         exact ⟨by first | rfl | (simp;done) | (simp [*];done),by repeat (first | exact Drawn0.refl _ | apply Drawn0.step)⟩
        ·rw [if_neg c9] at H
         have c9b0:decide (a0 ≤ 70) = false:=decide_eq_false c9
         clear c9
         obtain rfl:=Option.some.inj H
         go_wp2
         go_ret
         exact ⟨by first | rfl | (simp;done) | (simp [*];done),by repeat (first | exact Drawn0.refl _ | apply Drawn0.step)⟩
       ·rw [if_neg c8] at H
        have c8b0:decide (65 ≤ a0) = false:=decide_eq_false c8
        clear c8
        obtain rfl:=Option.some.inj H
        go_wp2
        go_ret
        exact ⟨by first | rfl | (simp;done) | (simp [*];done),by repeat (first | exact Drawn0.refl _ | apply Drawn0.step)⟩
def spec_source.f (a0:Int):Option (Bool × Bool):=if a0 = 9 then (some (true,decide (a0 ≤ 65535))) else (if a0 = 10 then (some (true,decide (a0 ≤ 65535))) else (if a0 = 13 then (some (true,decide (a0 ≤ 65535))) else (some (decide (a0 ≥ 32),decide (a0 ≤ 65535)))))
set_option maxHeartbeats 8000000 in
set_option maxRecDepth 100000 in
theorem spec_source.calls (a0:Int) (r1:Bool) (r2:Bool) (w:World) (h:spec_source.f a0 = some (r1,r2)) :
  Calls Tryz.prog 56 #[.int .i64 a0] w fun e w'=>e = .returned (.tuple #[.bool r1,.bool r2]) ∧ Drawn0 w w':=by
 have H:(if a0 = 9 then (some (true,decide (a0 ≤ 65535))) else (if a0 = 10 then (some (true,decide (a0 ≤ 65535))) else (if a0 = 13 then (some (true,decide (a0 ≤ 65535))) else (some (decide (a0 ≥ 32),decide (a0 ≤ 65535)))))) = some (r1,r2):=h
 clear h
 by_cases c2:a0 = 9
 ·rw [if_pos c2] at H
  have c2b0:(a0 == 9) = true:=beq_iff_eq.mpr c2
  have c2b1:(a0 != 9) = false:=bne_eq_false_iff_eq.mpr c2
  clear c2
  simp only [Option.some.injEq,Prod.mk.injEq] at H
  obtain ⟨rfl,rfl⟩:=H
  go_enter Tryz.func56,Tryz.ntmps56
  go_wp2
  go_ret2
  exact ⟨by first | rfl | (simp;done) | (simp [*];done),by repeat (first | exact Drawn0.refl _ | apply Drawn0.step)⟩
 ·rw [if_neg c2] at H
  have c2b0:(a0 == 9) = false:=beq_eq_false_iff_ne.mpr c2
  have c2b1:(a0 != 9) = true:=bne_iff_ne.mpr c2
  by_cases c3:a0 = 10
  ·rw [if_pos c3] at H
   have c3b0:(a0 == 10) = true:=beq_iff_eq.mpr c3
   have c3b1:(a0 != 10) = false:=bne_eq_false_iff_eq.mpr c3
   clear c3
   simp only [Option.some.injEq,Prod.mk.injEq] at H
   obtain ⟨rfl,rfl⟩:=H
   go_enter Tryz.func56,Tryz.ntmps56
   go_wp2
   go_ret2
   exact ⟨by first | rfl | (simp;done) | (simp [*];done),by repeat (first | exact Drawn0.refl _ | apply Drawn0.step)⟩
  ·rw [if_neg c3] at H
   have c3b0:(a0 == 10) = false:=beq_eq_false_iff_ne.mpr c3
   have c3b1:(a0 != 10) = true:=bne_iff_ne.mpr c3
   by_cases c4:a0 = 13
   ·rw [if_pos c4] at H
    have c4b0:(a0 == 13) = true:=beq_iff_eq.mpr c4
    have c4b1:(a0 != 13) = false:=bne_eq_false_iff_eq.mpr c4
    clear c4
    simp only [Option.some.injEq,Prod.mk.injEq] at H
    obtain ⟨rfl,rfl⟩:=H
    go_enter Tryz.func56,Tryz.ntmps56
    go_wp2
    go_ret2
    exact ⟨by first | rfl | (simp;done) | (simp [*];done),by repeat (first | exact Drawn0.refl _ | apply Drawn0.step)⟩
   ·rw [if_neg c4] at H
    have c4b0:(a0 == 13) = false:=beq_eq_false_iff_ne.mpr c4
    have c4b1:(a0 != 13) = true:=bne_iff_ne.mpr c4
    simp only [Option.some.injEq,Prod.mk.injEq] at H
    obtain ⟨rfl,rfl⟩:=H
    go_enter Tryz.func56,Tryz.ntmps56
    go_wp2
    go_ret2
    exact ⟨by first | rfl | (simp;done) | (simp [*];done),by repeat (first | exact Drawn0.refl _ | apply Drawn0.step)⟩
end Go.Proofs.YtbobbognjmofdaaGreatDoor.Ptext
end
section
namespace Go.Proofs.YtbobbognjmofdaaGreatDoor.Lex
open Go.RowKit Go.Proofs.YtbobbognjmofdaaGreatDoorW.PrintWords Go.Proofs.YtbobbognjmofdaaGreatDoorW.PrintLast Go.Proofs.YtbobbognjmofdaaGreatDoorW.PrintMore
open Go.Proofs.YtbobbognjmofdaaGreatDoor.Ptext
set_option linter.unusedVariables false
set_option linter.unusedSimpArgs false
theorem slice_str (s:ByteArray) (a b:Int) (h0:0 ≤ a) (h1:a ≤ b) (h2:b ≤ (s.size:Int)) (W:World) :
  (Instr.slice 9 (.string s) (some (.int .i64 a)) (some (.int .i64 b)) none).run Tryz.prog W = .ok (.string (s.extract a.toNat b.toNat)) W:=by
 have hb:0 ≤ b:=by omega
 have c1:decide (0 ≤ a) = true:=decide_eq_true h0
 have c2:decide (a ≤ b) = true:=decide_eq_true h1
 have c3:decide (b ≤ (s.size:Int)) = true:=decide_eq_true h2
 go_simp
def hexv (c:Int):Int:=if 48 ≤ c ∧ c ≤ 57 then c - 48 else if 97 ≤ c ∧ c ≤ 102 then c - 87 else if 65 ≤ c ∧ c ≤ 70 then c - 55 else -1
theorem hexv_range (c:Int):-1 ≤ hexv c ∧ hexv c ≤ 15:=by unfold hexv;(repeat' split) <;> omega
theorem hex_tells (c:Int) (h0:0 ≤ c) (h1:c ≤ 255):spec_hexadecimal.f 3 c = some (hexv c):=by
 unfold spec_hexadecimal.f hexv
 simp only [spec_hexadecimal.j0,spec_hexadecimal.j1,decide_eq_true_eq]
 (repeat' split) <;> first | omega | (simp_all [wrap64];try omega)
abbrev FR:ByteArray:={ data:=#[34,92,47,98,102,110,114,116] }
abbrev TO:ByteArray:={ data:=#[34,92,47,8,12,10,13,9] }
def escText (c:Int):Option ByteArray:=if c = 34 then some ⟨#[34]⟩ else if c = 92 then some ⟨#[92]⟩ else if c = 47 then some ⟨#[47]⟩ else if c = 98 then some ⟨#[8]⟩ else if c = 102 then some ⟨#[12]⟩ else if c = 110 then some ⟨#[10]⟩ else if c = 114 then some ⟨#[13]⟩ else if c = 116 then some ⟨#[9]⟩ else none
theorem esc_hit (c:Int):∀ i:Nat,i < 8 → bt FR (i:Int) = c → escText c = some (TO.extract i (i + 1)):=by
 intro i hi h
 subst h
 rcases i with _ | _ | _ | _ | _ | _ | _ | _ | i
 all_goals first | rfl | (exfalso;omega)
theorem esc_miss (c:Int) (h:∀ j:Nat,j < 8 → bt FR (j:Int) ≠ c):escText c = none:=by
 have h0:(34:Int) ≠ c:=h 0 (by omega)
 have h1:(92:Int) ≠ c:=h 1 (by omega)
 have h2:(47:Int) ≠ c:=h 2 (by omega)
 have h3:(98:Int) ≠ c:=h 3 (by omega)
 have h4:(102:Int) ≠ c:=h 4 (by omega)
 have h5:(110:Int) ≠ c:=h 5 (by omega)
 have h6:(114:Int) ≠ c:=h 6 (by omega)
 have h7:(116:Int) ≠ c:=h 7 (by omega)
 unfold escText
 simp [h0.symm,h1.symm,h2.symm,h3.symm,h4.symm,h5.symm,h6.symm,h7.symm]
def hexs (s:ByteArray):Nat → Int → Int → Except Int Int
 | 0,_,a=>.ok a
 | k + 1,p,a=>if hexv (nx s p) < 0 then .error p else hexs s k (p + 1) (16 * a + hexv (nx s p))
def esc (s:ByteArray) (p:Int):ByteArray × Int × Bool:=
 match escText (nx s (p + 1)) with
 | some t=>(t,2,false)
 | none=>if nx s (p + 1) ≠ 117 then (⟨#[]⟩,0,false) else
  match hexs s 4 (p + 2) 0 with
  | .error q=>(⟨#[]⟩,0,nx s q == 123)
  | .ok n=>if 55296 ≤ n ∧ n < 57344 then (⟨#[]⟩,0,true) else (Utf8.encode n,6,n == 0)
theorem nx_range (s:ByteArray) (i:Int):0 ≤ nx s i ∧ nx s i ≤ 255:=by
 unfold nx;split
 ·exact bt_range s i
 ·omega
set_option maxRecDepth 4000 in
set_option maxHeartbeats 400000 in
theorem esc_any (base g:Nat) (x:LS) (at_:Int) (w:World) (h:Lx w base g x) (hbase:base ≤ w.heap.size) (hi:0 ≤ at_) (hs:at_ ≤ 100000) :
  Calls Tryz.prog 55 #[.pointer (some ⟨g,0,none⟩),.int .i64 at_] w fun e w'=>e = .returned (.tuple #[.string (esc x.s at_).1,.int .i64 (esc x.s at_).2.1]) ∧ Lx w' base g { x with unsure:=x.unsure || (esc x.s at_).2.2 } ∧ Below base w w':=by
 have HX:=Aside0.mk h
 clear h
 obtain ⟨c,hc⟩:∃ c,c = nx x.s (at_ + 1):=⟨_,rfl⟩
 have HC:=Aside0.mk hc
 clear hc
 obtain ⟨E,hE⟩:∃ E,E = esc x.s at_:=⟨_,rfl⟩
 rw [← hE]
 have HE:=Aside0.mk hE
 clear hE
 go_enter Tryz.func55,Tryz.ntmps55
 go_wp2_with fail
 refine (next_any base g x (at_ + 1) w HX.out (by omega)).mono ?_
 rintro e w1 ⟨rfl,⟨m,rfl⟩⟩
 rw [← HC.out]
 have HX1:=Aside0.mk (HX.out.drewN m)
 go_wp2_with fail
 go_loopg [9] 8 (fun kq v9 wr=>∃ (i:Nat),v9 = .int .i64 (i:Int) ∧ Aside0 (i ≤ 8 ∧ kq = 8 - i ∧ ∀ j:Nat,j < i → bt FR (j:Int) ≠ c) ∧ Drawn0 w wr)
 case atStart=>exact ⟨0,rfl,⟨by omega,by omega,by omega⟩,⟨m,rfl⟩⟩
 case round=>
  obtain ⟨i,rfl,HA,⟨m2,rfl⟩⟩:=hrel
  have hiz:(i:Int) ≤ 8:=by have:=HA.out.1;omega
  by_cases hlt:(i:Int) < 8
  ·have hltz:decide ((i:Int) < (8:Int)) = true:=decide_eq_true hlt
   have hin:i < 8:=by omega
   have hx:((({ data:=#[34,92,47,98,102,110,114,116] }:ByteArray)[i]'hin).toNat:Int) = bt FR (i:Int):=bt_at FR (i:Int) hin
   obtain ⟨q,hq⟩:∃ q,q = bt FR (i:Int):=⟨_,rfl⟩
   rw [← hq] at hx
   have HQ:=Aside0.mk hq
   clear hq
   by_cases he:q = c
   ·have heb:(q == c) = true:=beq_iff_eq.mpr he
    have ks:=fun W=>slice_str { data:=#[34,92,47,8,12,10,13,9] } (i:Int) ((i:Int) + 1) (by omega) (by omega) (by show (i:Int) + 1 ≤ 8;omega) W
    have hv:=esc_hit c i hin (by rw [← HQ.out];exact he)
    have hEv:E = (TO.extract i (i + 1),2,false):=by
     rw [HE.out];unfold esc;rw [← HC.out,hv]
    have HEV:=Aside0.mk hEv
    clear he hv hEv
    go_wp2_with fail
    go_ret2
    rw [HEV.out]
    refine ⟨?_,?_,pw_below_drewN (Below.refl _ _) _⟩
    ·rfl
    ·simpa using HX.out.drewN m2
   ·have heb:(q == c) = false:=beq_eq_false_iff_ne.mpr he
    have HE1:=Aside0.mk he
    clear he
    go_wp2_with fail
    go_roundg (8 - (i + 1))
    case measure=>have:=HA.out;omega
    case rel=>
     refine ⟨i + 1,by go_num,⟨by omega,rfl,?_⟩,⟨m2,rfl⟩⟩
     intro j hj
     rcases Nat.lt_succ_iff_lt_or_eq.1 hj with hj | rfl
     ·exact HA.out.2.2 j hj
     ·rw [← HQ.out];exact HE1.out
  ·have hltz:decide ((i:Int) < (8:Int)) = false:=decide_eq_false hlt
   have hmiss:escText c = none:=esc_miss c (fun j hj=>HA.out.2.2 j (by omega))
   have HM:=Aside0.mk hmiss
   clear hmiss
   by_cases hu:c = 117
   ·have hub:(c != 117) = false:=by simp [hu]
    have HU:=Aside0.mk hu
    clear hu
    have HX2:=Aside0.mk (HX.out.drewN m2)
    obtain ⟨R,hR⟩:∃ R,R = hexs x.s 4 (at_ + 2) 0:=⟨_,rfl⟩
    have HR:=Aside0.mk hR
    clear hR
    go_wp2_with fail
    go_loopg [10,11] 4 (fun kq v10 v11 wr=>∃ (j:Nat) (a:Int),v10 = .int .i64 a ∧ v11 = .int .i64 (at_ + 2 + j) ∧ Aside0 (j ≤ 4 ∧ kq = 4 - j ∧ 0 ≤ a ∧ a < 16 ^ j ∧ hexs x.s (4 - j) (at_ + 2 + j) a = R) ∧ Drawn0 w wr)
    case atStart=>exact ⟨0,0,rfl,by simp,⟨by omega,by omega,by omega,by omega,by rw [HR.out];simp⟩,⟨m2,rfl⟩⟩
    case round=>
     obtain ⟨j,a,rfl,rfl,HJ,⟨m3,rfl⟩⟩:=hrel
     have hjz:(j:Int) ≤ 4:=by have:=HJ.out.1;omega
     have ha0:0 ≤ a:=HJ.out.2.2.1
     have ha1:a < 65536 ∧ (j < 4 → a < 4096):=by
      have h4:=HJ.out.2.2.2.1
      have hj4:=HJ.out.1
      clear HJ
      rcases j with _ | _ | _ | _ | _ | j <;> (try simp at h4) <;> omega
     have HX3:=Aside0.mk (HX.out.drewN m3)
     by_cases hj:(j:Int) < 4
     ·have hjb:decide (at_ + 2 + (j:Int) < at_ + 6) = true:=decide_eq_true (by omega)
      have ha2:a < 4096:=ha1.2 (by omega)
      obtain ⟨ch,hch⟩:∃ ch,ch = nx x.s (at_ + 2 + j):=⟨_,rfl⟩
      have hrg:=nx_range x.s (at_ + 2 + j)
      rw [← hch] at hrg
      have HCH:=Aside0.mk hch
      obtain ⟨d,hd⟩:∃ d,d = hexv ch:=⟨_,rfl⟩
      have hdr:=hexv_range ch
      rw [← hd] at hdr
      have HD:=Aside0.mk hd
      have hrun:hexs x.s (4 - j) (at_ + 2 + j) a = if d < 0 then .error (at_ + 2 + j) else hexs x.s (4 - (j + 1)) (at_ + 2 + ((j + 1:Nat):Int)) (16 * a + d):=by
       have e1:4 - j = (4 - (j + 1)) + 1:=by omega
       rw [e1]
       simp only [hexs,← hch,← hd]
       congr 2
       push_cast;omega
      have HRUN:=Aside0.mk hrun
      clear hch hd hrun ha1
      go_wp2_with fail
      refine (next_any base g x (at_ + 2 + j) (w.drewN m3) HX3.out (by omega)).mono ?_
      rintro e w2 ⟨rfl,⟨m4,rfl⟩⟩
      rw [← HCH.out]
      go_wp2_with fail
      have ht:=hex_tells ch hrg.1 hrg.2
      rw [← HD.out] at ht
      have HT:=Aside0.mk ht
      clear ht
      refine (spec_hexadecimal.calls 3 ch d _ HT.out).mono ?_
      rintro e w2 ⟨rfl,⟨m5,rfl⟩⟩
      by_cases hneg:d < 0
      ·have hnb:decide (d < 0) = true:=decide_eq_true hneg
       have HX4:=HX.out.drewN (m3 + m4 + m5)
       have HXX:=Aside0.mk HX4
       obtain ⟨v,c0,c1,c2,c3,c4,fz⟩:=HX4.cells
       clear HX4
       have hRe:R = .error (at_ + 2 + j):=by
        rw [← HJ.out.2.2.2.2,HRUN.out,if_pos hneg]
       have hEv:E = (⟨#[]⟩,0,ch == 123):=by
        rw [HE.out];unfold esc
        rw [← HC.out,HM.out,HU.out]
        simp only [ne_eq,not_true_eq_false,if_false]
        rw [← HR.out,hRe,HCH.out]
       have HEV:=Aside0.mk hEv
       clear hRe hEv
       by_cases hun:x.unsure = true
       ·rw [hun] at c4
        go_wp2_with fail
        go_ret2
        rw [HEV.out]
        refine ⟨rfl,?_,?_⟩
        ·have:=HXX.out.set4 true
         simpa [hun] using this
        ·exact HXX.out.bset (pw_below_drewN (Below.refl _ _) _) 4 _
       ·have hun':x.unsure = false:=by simpa using hun
        rw [hun'] at c4
        go_wp2_with fail
        refine (next_any base g x (at_ + 2 + j) _ HXX.out (by omega)).mono ?_
        rintro e w2 ⟨rfl,⟨m6,rfl⟩⟩
        rw [← HCH.out]
        have HX5:=HX.out.drewN (m3 + m4 + m5 + m6)
        have HXY:=Aside0.mk HX5
        obtain ⟨v,c0,c1,c2,c3,c4,fz⟩:=HX5.cells
        clear HX5
        go_wp2_with fail
        go_ret2
        rw [HEV.out]
        refine ⟨rfl,?_,?_⟩
        ·have:=HXY.out.set4 (ch == 123)
         simpa [hun'] using this
        ·exact HXY.out.bset (pw_below_drewN (Below.refl _ _) _) 4 _
      ·have hnb:decide (d < 0) = false:=decide_eq_false hneg
       go_wp2_with fail
       go_roundg (4 - (j + 1))
       case measure=>have:=HJ.out;omega
       case rel=>
        refine ⟨j + 1,16 * a + d,rfl,by go_num,⟨by omega,rfl,by omega,?_,?_⟩,by repeat (first | exact ⟨_,rfl⟩ | exact Drawn0.refl _ | apply Drawn0.step)⟩
        ·have:=HJ.out.2.2.2.1
         rw [Int.pow_succ];omega
        ·have:=HJ.out.2.2.2.2
         rw [HRUN.out,if_neg (by omega)] at this
         exact this
     ·obtain rfl:j = 4:=by omega
      have hjb:decide (at_ + 2 + 4 < at_ + 6) = false:=decide_eq_false (by omega)
      have hRa:R = .ok a:=by
       have:=HJ.out.2.2.2.2
       simpa [hexs] using this.symm
      have hEv:E = if 55296 ≤ a ∧ a < 57344 then (⟨#[]⟩,0,true) else (Utf8.encode a,6,a == 0):=by
       rw [HE.out];unfold esc
       rw [← HC.out,HM.out,HU.out]
       simp only [ne_eq,not_true_eq_false,if_false]
       rw [← HR.out,hRa]
      have HEV:=Aside0.mk hEv
      have ha2:a < 65536:=ha1.1
      clear hRa ha1 hEv
      have HX4:=HX.out.drewN m3
      have HXX:=Aside0.mk HX4
      obtain ⟨v,c0,c1,c2,c3,c4,fz⟩:=HX4.cells
      clear HX4
      by_cases hsur:55296 ≤ a ∧ a < 57344
      ·have b1:decide (a ≥ 55296) = true:=decide_eq_true hsur.1
       have b2:decide (a < 57344) = true:=decide_eq_true hsur.2
       have hEV:=HEV.out
       rw [if_pos hsur] at hEV
       have HEV2:=Aside0.mk hEV
       clear hEV
       go_wp2_with fail
       go_ret2
       rw [HEV2.out]
       refine ⟨rfl,?_,?_⟩
       ·have:=HXX.out.set4 true
        simpa using this
       ·exact HXX.out.bset (pw_below_drewN (Below.refl _ _) _) 4 _
      ·have hEV:=HEV.out
       rw [if_neg hsur] at hEV
       have HEV2:=Aside0.mk hEV
       clear hEV
       by_cases h1:55296 ≤ a
       ·have b1:decide (a ≥ 55296) = true:=decide_eq_true h1
        have b2:decide (a < 57344) = false:=decide_eq_false (by omega)
        have b3:(a == 0) = false:=by simp;omega
        clear hsur
        by_cases hun:x.unsure = true
        ·rw [hun] at c4
         go_wp2_with fail
         refine (enc_any a _ ha0 (by omega)).mono ?_
         rintro e w2 ⟨rfl,hb2⟩
         have HB2:=Aside0.mk hb2
         clear hb2
         go_wp2_with fail
         go_ret2
         rw [HEV2.out]
         refine ⟨rfl,?_,?_⟩
         ·have:=(HXX.out.set4 (x.unsure || (a == 0))).below (by simpa [hun,b3] using HB2.out)
          exact this
         ·exact below_then (HXX.out.bset (pw_below_drewN (Below.refl base _) _) 4 _) (Nat.le_trans hbase (HXX.out.bset (pw_below_drewN (Below.refl base _) _) 4 _).size) HB2.out
        ·have hun:x.unsure = false:=by simpa using hun
         rw [hun] at c4
         go_wp2_with fail
         refine (enc_any a _ ha0 (by omega)).mono ?_
         rintro e w2 ⟨rfl,hb2⟩
         have HB2:=Aside0.mk hb2
         clear hb2
         go_wp2_with fail
         go_ret2
         rw [HEV2.out]
         refine ⟨rfl,?_,?_⟩
         ·have:=(HXX.out.set4 (x.unsure || (a == 0))).below (by simpa [hun,b3] using HB2.out)
          exact this
         ·exact below_then (HXX.out.bset (pw_below_drewN (Below.refl base _) _) 4 _) (Nat.le_trans hbase (HXX.out.bset (pw_below_drewN (Below.refl base _) _) 4 _).size) HB2.out
       ·have b1:decide (a ≥ 55296) = false:=decide_eq_false h1
        clear hsur
        by_cases h0:a = 0
        ·subst h0
         have b3:((0:Int) == 0) = true:=rfl
         by_cases hun:x.unsure = true
         ·rw [hun] at c4
          go_wp2_with fail
          refine (enc_any 0 _ (by omega) (by omega)).mono ?_
          rintro e w2 ⟨rfl,hb2⟩
          have HB2:=Aside0.mk hb2
          clear hb2
          go_wp2_with fail
          go_ret2
          rw [HEV2.out]
          refine ⟨rfl,?_,?_⟩
          ·have:=(HXX.out.set4 (x.unsure || ((0:Int) == 0))).below (by simpa [hun,b3] using HB2.out)
           exact this
          ·exact below_then (HXX.out.bset (pw_below_drewN (Below.refl base _) _) 4 _) (Nat.le_trans hbase (HXX.out.bset (pw_below_drewN (Below.refl base _) _) 4 _).size) HB2.out
         ·have hun:x.unsure = false:=by simpa using hun
          rw [hun] at c4
          go_wp2_with fail
          refine (enc_any 0 _ (by omega) (by omega)).mono ?_
          rintro e w2 ⟨rfl,hb2⟩
          have HB2:=Aside0.mk hb2
          clear hb2
          go_wp2_with fail
          go_ret2
          rw [HEV2.out]
          refine ⟨rfl,?_,?_⟩
          ·have:=(HXX.out.set4 (x.unsure || ((0:Int) == 0))).below (by simpa [hun,b3] using HB2.out)
           exact this
          ·exact below_then (HXX.out.bset (pw_below_drewN (Below.refl base _) _) 4 _) (Nat.le_trans hbase (HXX.out.bset (pw_below_drewN (Below.refl base _) _) 4 _).size) HB2.out
        ·have b3:(a == 0) = false:=by simp [h0]
         by_cases hun:x.unsure = true
         ·rw [hun] at c4
          go_wp2_with fail
          refine (enc_any a _ ha0 (by omega)).mono ?_
          rintro e w2 ⟨rfl,hb2⟩
          have HB2:=Aside0.mk hb2
          clear hb2
          go_wp2_with fail
          go_ret2
          rw [HEV2.out]
          refine ⟨rfl,?_,?_⟩
          ·have:=(HXX.out.set4 (x.unsure || (a == 0))).below (by simpa [hun,b3] using HB2.out)
           exact this
          ·exact below_then (HXX.out.bset (pw_below_drewN (Below.refl base _) _) 4 _) (Nat.le_trans hbase (HXX.out.bset (pw_below_drewN (Below.refl base _) _) 4 _).size) HB2.out
         ·have hun:x.unsure = false:=by simpa using hun
          rw [hun] at c4
          go_wp2_with fail
          refine (enc_any a _ ha0 (by omega)).mono ?_
          rintro e w2 ⟨rfl,hb2⟩
          have HB2:=Aside0.mk hb2
          clear hb2
          go_wp2_with fail
          go_ret2
          rw [HEV2.out]
          refine ⟨rfl,?_,?_⟩
          ·have:=(HXX.out.set4 (x.unsure || (a == 0))).below (by simpa [hun,b3] using HB2.out)
           exact this
          ·exact below_then (HXX.out.bset (pw_below_drewN (Below.refl base _) _) 4 _) (Nat.le_trans hbase (HXX.out.bset (pw_below_drewN (Below.refl base _) _) 4 _).size) HB2.out
   ·have hub:(c != 117) = true:=by simp [hu]
    have hEv:E = (⟨#[]⟩,0,false):=by
     rw [HE.out];unfold esc;rw [← HC.out,HM.out];simp [hu]
    have HEV:=Aside0.mk hEv
    clear hEv hu
    go_wp2_with fail
    go_ret2
    rw [HEV.out]
    exact ⟨rfl,by simpa using HX.out.drewN m2,pw_below_drewN (Below.refl _ _) _⟩
def ptS (s:ByteArray) (p:Int):Int × Int:=(spec_Point.f 12 s p).getD (0,0)
def isSrc (c:Int):Bool:=c == 9 || c == 10 || c == 13 || decide (c ≥ 32)
theorem src_tells (c:Int):spec_source.f c = some (isSrc c,decide (c ≤ 65535)):=by
 unfold spec_source.f isSrc
 by_cases h1:c = 9
 ·simp [h1]
 by_cases h2:c = 10
 ·simp [h2]
 by_cases h3:c = 13
 ·simp [h3]
 simp [h1,h2,h3]
def txt (s:ByteArray):Nat → Int → ByteArray → Bool → Option (Int × ByteArray) × Bool
 | 0,_,_,u=>(none,u)
 | k + 1,p,o,u=>
  if (s.size:Int) ≤ p then (none,u)
  else if bt s p = 34 then (some (p + 1,o),u)
  else if bt s p = 10 ∨ bt s p = 13 then (none,u)
  else if bt s p = 92 then
   if (esc s p).2.1 = 0 then (none,u || (esc s p).2.2) else txt s k (p + (esc s p).2.1) (o ++ (esc s p).1) (u || (esc s p).2.2)
  else if (ptS s p).2 = 0 then (none,true)
  else if isSrc (ptS s p).1 = false then (none,u)
  else txt s k (p + (ptS s p).2) (o ++ s.extract p.toNat (p + (ptS s p).2).toNat) (u || decide (65535 < (ptS s p).1))
theorem esc_facts (s:ByteArray) (p:Int):(esc s p).1.size ≤ 4 ∧ ((esc s p).2.1 = 0 ∨ 2 ≤ (esc s p).2.1 ∧ (esc s p).2.1 ≤ 6):=by
 unfold esc
 split
 ·rename_i t ht
  refine ⟨?_,.inr (by simp)⟩
  unfold escText at ht
  (repeat' split at ht) <;> first | (simp only [Option.some.injEq] at ht;subst ht;decide) | cases ht
 ·split
  ·exact ⟨Nat.zero_le _,.inl rfl⟩
  ·split
   ·exact ⟨Nat.zero_le _,.inl rfl⟩
   ·split
    ·exact ⟨Nat.zero_le _,.inl rfl⟩
    ·exact ⟨encode_size_le _,.inr (by simp)⟩
def LS.after (x:LS) (r:Option (Int × ByteArray) × Bool):LS:=
 match r.1 with
 | some q=>{ x with at_:=q.1,out:=x.out ++ [⟨18,q.2,x.at_,q.1⟩],unsure:=r.2 }
 | none=>{ x with bad:=true,unsure:=r.2 }
set_option maxRecDepth 4000 in
set_option maxHeartbeats 1000000 in
theorem text_any (base g:Nat) (x:LS) (w:World) (h:Lx w base g x) (hbase:base ≤ w.heap.size) (hi:0 ≤ x.at_) (hi2:x.at_ ≤ x.s.size) (hs:x.s.size ≤ 2000) (hl:(x.out.length + 1) * 40 ≤ 140737488355328)
  (
  hpt:∀ p:Int,0 ≤ p → p < x.s.size → spec_Point.f 12 x.s p = some (ptS x.s p) ∧ ((ptS x.s p).2 = 0 ∨ 1 ≤ (ptS x.s p).2 ∧ (ptS x.s p).2 ≤ 4 ∧ p + (ptS x.s p).2 ≤ x.s.size)) :
  Calls Tryz.prog 33 #[.pointer (some ⟨g,0,none⟩)] w fun e w'=>e = .returned (.tuple #[]) ∧ Lx w' base g (x.after (txt x.s (x.s.size + 1) (x.at_ + 1) ⟨#[]⟩ x.unsure)) ∧ Below base w w':=by
 have HX:=Aside0.mk h
 have HPT:=Aside0.mk hpt
 obtain ⟨v,c0,c1,c2,c3,c4,fz⟩:=h.cells
 clear h hpt
 obtain ⟨R,hR⟩:∃ R,R = txt x.s (x.s.size + 1) (x.at_ + 1) ⟨#[]⟩ x.unsure:=⟨_,rfl⟩
 rw [← hR]
 have HR:=Aside0.mk hR
 clear hR
 go_enter Tryz.func33,Tryz.ntmps33
 go_wp2_with fail
 clear c0 c1 c2 c3 c4 fz
 go_loopg [2,3] (x.s.size + 1) (fun kq v2 v3 wr=>∃ (p:Int) (o:ByteArray) (u:Bool),v2 = .string o ∧ v3 = .int .i64 p ∧ Aside0 (1 ≤ p ∧ p ≤ 100000 ∧ (x.s.size:Int) < p + kq ∧ (o.size:Int) ≤ 4 * p ∧ txt x.s kq p o u = R ∧ Lx wr base g { x with unsure:=u } ∧ Below base w wr))
 case atStart=>exact ⟨x.at_ + 1,⟨#[]⟩,x.unsure,rfl,rfl,⟨by omega,by omega,by omega,by show ((0:Nat):Int) ≤ _;omega,HR.out.symm,HX.out,Below.refl _ _⟩⟩
 case round=>
  obtain ⟨p,o,u,rfl,rfl,HA⟩:=hrel
  have hp1:=HA.out.1
  have hp2:=HA.out.2.1
  have hx:=HA.out.2.2.2.2.2.1
  have HL:=Aside0.mk hx
  have HBB:=Aside0.mk HA.out.2.2.2.2.2.2
  obtain ⟨v,c0,c1,c2,c3,c4,fz⟩:=hx.cells
  clear hx
  by_cases hlt:p < (x.s.size:Int)
  ·have hltb:decide (p < (x.s.size:Int)) = true:=decide_eq_true hlt
   have hb:=bt_at x.s p
   obtain ⟨ch,hch⟩:∃ ch,ch = bt x.s p:=⟨_,rfl⟩
   rw [← hch] at hb
   have HCH:=Aside0.mk hch
   obtain ⟨k,rfl⟩:∃ k,gk = k + 1:=⟨gk - 1,by have:=HA.out.2.2.1;omega⟩
   have hrun:=HA.out.2.2.2.2.1
   rw [txt,if_neg (by omega),← hch] at hrun
   have HRUN:=Aside0.mk hrun
   clear hrun hch
   by_cases e1:ch = 34
   ·have e1b:(ch == 34) = true:=by simp [e1]
    have hfin:R = (some (p + 1,o),u):=by rw [← HRUN.out,if_pos e1]
    have HF:=Aside0.mk hfin
    clear hfin
    go_wp2_with fail
    refine (add_any base g { x with unsure:=u } 18 (p + 1) o wr HL.out (Nat.le_trans hbase HBB.out.size) hl).mono ?_
    rintro e w2 ⟨rfl,hX2,hB2⟩
    have HX2:=Aside0.mk hX2
    have HB2:=Aside0.mk hB2
    clear hX2 hB2
    go_wp2_with fail
    first | go_end0 | ((try simp only [Exit.inBlock,Exit.then]);refine bodyPost_ret (results_none rfl _ _ _) rfl ?_)
    rw [HF.out]
    exact ⟨rfl,HX2.out,HBB.out.trans HB2.out⟩
   have e1b:(ch == 34) = false:=by simp [e1]
   have hr1:=HRUN.out
   rw [if_neg e1] at hr1
   clear HRUN
   have HRUN:=Aside0.mk hr1
   clear hr1 e1
   by_cases e2:ch = 10 ∨ ch = 13
   ·have hfin:R = (none,u):=by rw [← HRUN.out,if_pos e2]
    have HF:=Aside0.mk hfin
    clear hfin
    by_cases e3:ch = 10
    ·have e3b:(ch == 10) = true:=by simp [e3]
     clear e2 e3
     go_wp2_with fail
     refine (fail_any base g { x with unsure:=u } _ HL.out).mono ?_
     rintro e w2 ⟨rfl,hX2,hB2⟩
     have HX2:=Aside0.mk hX2
     have HB2:=Aside0.mk hB2
     clear hX2 hB2
     go_wp2_with fail
     first | go_end0 | ((try simp only [Exit.inBlock,Exit.then]);refine bodyPost_ret (results_none rfl _ _ _) rfl ?_)
     rw [HF.out]
     exact ⟨rfl,HX2.out,HBB.out.trans HB2.out⟩
    ·have e3b:(ch == 10) = false:=by simp [e3]
     have e3c:(ch == 13) = true:=by simp;omega
     clear e2 e3
     go_wp2_with fail
     refine (fail_any base g { x with unsure:=u } _ HL.out).mono ?_
     rintro e w2 ⟨rfl,hX2,hB2⟩
     have HX2:=Aside0.mk hX2
     have HB2:=Aside0.mk hB2
     clear hX2 hB2
     go_wp2_with fail
     first | go_end0 | ((try simp only [Exit.inBlock,Exit.then]);refine bodyPost_ret (results_none rfl _ _ _) rfl ?_)
     rw [HF.out]
     exact ⟨rfl,HX2.out,HBB.out.trans HB2.out⟩
   have e2b:(ch == 10) = false:=by simp;omega
   have e3b:(ch == 13) = false:=by simp;omega
   have hr2:=HRUN.out
   rw [if_neg e2] at hr2
   clear HRUN
   have HRUN:=Aside0.mk hr2
   clear hr2 e2
   by_cases e4:ch = 92
   ·have hr3:=HRUN.out
    rw [if_pos e4] at hr3
    have HRUN3:=Aside0.mk hr3
    clear hr3
    have e4b:(ch == 92) = true:=by simp [e4]
    clear e4
    have hef:=esc_facts x.s p
    obtain ⟨⟨t,n,e⟩,hE⟩:∃ E,E = esc x.s p:=⟨_,rfl⟩
    rw [← hE] at hef
    have HE:=Aside0.mk hE
    clear hE
    obtain ⟨ht4,hn6⟩:=hef
    have ht4:t.size ≤ 4:=ht4
    have hn6:n = 0 ∨ 2 ≤ n ∧ n ≤ 6:=hn6
    have hos:(o.size:Int) ≤ 4 * p:=HA.out.2.2.2.1
    have hcat:o.size + t.size ≤ 9223372036854775807:=by omega
    go_wp2_with fail
    refine (esc_any base g { x with unsure:=u } p wr HL.out (Nat.le_trans hbase HBB.out.size) (by omega) (by omega)).mono ?_
    rintro e0 w2 ⟨rfl,hX2,hB2⟩
    rw [← HE.out] at hX2
    rw [← HE.out]
    have HX2:=Aside0.mk hX2
    have HBX:=Aside0.mk (HBB.out.trans hB2)
    clear hX2 hB2
    by_cases hz:n = 0
    ·have hzb:(n == 0) = true:=by simp [hz]
     have hfin:R = (none,u || e):=by rw [← HRUN3.out,← HE.out];exact if_pos hz
     have HF:=Aside0.mk hfin
     clear hfin hz hn6
     go_wp2_with fail
     refine (fail_any base g { x with unsure:=u || e } _ HX2.out).mono ?_
     rintro e w3 ⟨rfl,hX3,hB2⟩
     have HX3:=Aside0.mk hX3
     have HB2:=Aside0.mk hB2
     clear hX3 hB2
     go_wp2_with fail
     first | go_end0 | ((try simp only [Exit.inBlock,Exit.then]);refine bodyPost_ret (results_none rfl _ _ _) rfl ?_)
     rw [HF.out]
     exact ⟨rfl,HX3.out,HBX.out.trans HB2.out⟩
    ·have hzb:(n == 0) = false:=by simp [hz]
     have hn2:2 ≤ n:=by omega
     have hn7:n ≤ 6:=by omega
     have hrec:txt x.s k (p + n) (o ++ t) (u || e) = R:=by
      rw [← HRUN3.out,← HE.out];exact (if_neg hz).symm
     have HREC:=Aside0.mk hrec
     clear hrec hz hn6
     go_wp2_with fail
     go_roundg k
     case measure=>omega
     case rel=>
      refine ⟨p + n,o ++ t,u || e,rfl,rfl,⟨by omega,by omega,by have:=HA.out.2.2.1;omega,by rw [ByteArray.size_append];push_cast;omega,HREC.out,HX2.out,HBX.out⟩⟩
   have e4b:(ch == 92) = false:=by simp [e4]
   have hr3:=HRUN.out
   rw [if_neg e4] at hr3
   clear HRUN
   have HRUN:=Aside0.mk hr3
   clear hr3 e4
   obtain ⟨hpt,hpn⟩:=HPT.out p (by omega) hlt
   obtain ⟨⟨pc,n⟩,hP⟩:∃ P,P = ptS x.s p:=⟨_,rfl⟩
   rw [← hP] at hpt hpn
   have HP:=Aside0.mk hP
   have HPTT:=Aside0.mk hpt
   have hpn:n = 0 ∨ 1 ≤ n ∧ n ≤ 4 ∧ p + n ≤ (x.s.size:Int):=hpn
   clear hP hpt
   have hos:(o.size:Int) ≤ 4 * p:=HA.out.2.2.2.1
   go_wp2_with fail
   refine (spec_Point.calls 12 x.s p pc n _ HPTT.out).mono ?_
   rintro e0 w2 ⟨rfl,⟨m,rfl⟩⟩
   go_wp2_with fail
   refine (spec_source.calls pc _ _ _ (src_tells pc)).mono ?_
   rintro e0 w2 ⟨rfl,⟨m2,rfl⟩⟩
   have HX4:=HL.out.drewN (m + m2)
   have HXX:=Aside0.mk HX4
   obtain ⟨v,c0,c1,c2,c3,c4,fz⟩:=HX4.cells
   clear HX4
   by_cases hz:n = 0
   ·have hzb:(n == 0) = true:=by simp [hz]
    have hfin:R = (none,true):=by rw [← HRUN.out,← HP.out];exact if_pos hz
    have HF:=Aside0.mk hfin
    clear hfin hz hpn
    rcases Bool.eq_false_or_eq_true u with hu | hu
    all_goals
     rw [hu] at c4
     cases hsr:isSrc pc
     all_goals
      go_wp2_with fail
      refine (fail_any base g { x with unsure:=true } _ (by have:=HXX.out.set4 true;exact this)).mono ?_
      rintro e0 w3 ⟨rfl,hX3,hB3⟩
      have HX3:=Aside0.mk hX3
      have HB3:=Aside0.mk hB3
      clear hX3 hB3
      go_wp2_with fail
      first | go_end0 | ((try simp only [Exit.inBlock,Exit.then]);refine bodyPost_ret (results_none rfl _ _ _) rfl ?_)
      rw [HF.out]
      exact ⟨rfl,HX3.out,(HXX.out.bset (HBB.out.trans (pw_below_drewN (Below.refl _ _) _)) 4 _).trans HB3.out⟩
   ·have hzb:(n == 0) = false:=by simp [hz]
    cases hsr:isSrc pc with
    | false=>
     have hfin:R = (none,u):=by
      rw [← HRUN.out,← HP.out]
      show (if n = 0 then _ else if isSrc pc = false then _ else _) = _
      rw [if_neg hz,if_pos hsr]
     have HF:=Aside0.mk hfin
     clear hfin hz hpn
     rcases Bool.eq_false_or_eq_true u with hu | hu
     all_goals
      subst hu
      go_wp2_with fail
     ·refine (fail_any base g { x with unsure:=true } _ (by have:=HXX.out.set4 true;exact this)).mono ?_
      rintro e0 w3 ⟨rfl,hX3,hB3⟩
      have HX3:=Aside0.mk hX3
      have HB3:=Aside0.mk hB3
      clear hX3 hB3
      go_wp2_with fail
      first | go_end0 | ((try simp only [Exit.inBlock,Exit.then]);refine bodyPost_ret (results_none rfl _ _ _) rfl ?_)
      rw [HF.out]
      exact ⟨rfl,HX3.out,(HXX.out.bset (HBB.out.trans (pw_below_drewN (Below.refl _ _) _)) 4 _).trans HB3.out⟩
     ·refine (fail_any base g { x with unsure:=false } _ (by have:=HXX.out.set4 false;exact this)).mono ?_
      rintro e0 w3 ⟨rfl,hX3,hB3⟩
      have HX3:=Aside0.mk hX3
      have HB3:=Aside0.mk hB3
      clear hX3 hB3
      go_wp2_with fail
      first | go_end0 | ((try simp only [Exit.inBlock,Exit.then]);refine bodyPost_ret (results_none rfl _ _ _) rfl ?_)
      rw [HF.out]
      exact ⟨rfl,HX3.out,(HXX.out.bset (HBB.out.trans (pw_below_drewN (Below.refl _ _) _)) 4 _).trans HB3.out⟩
    | true=>
     have hn1:1 ≤ n:=by omega
     have hn4:n ≤ 4:=by omega
     have hn5:p + n ≤ (x.s.size:Int):=by omega
     obtain ⟨q,hq⟩:∃ q,q = x.s.extract p.toNat (p + n).toNat:=⟨_,rfl⟩
     have hqs:q.size ≤ 4:=by rw [hq,ByteArray.size_extract];omega
     have ks:=fun W=>slice_str x.s p (p + n) (by omega) (by omega) hn5 W
     rw [← hq] at ks
     have hcat:o.size + q.size ≤ 9223372036854775807:=by omega
     have hrec:txt x.s k (p + n) (o ++ q) (u || decide (65535 < pc)) = R:=by
      rw [← HRUN.out,← HP.out,hq]
      show _ = (if n = 0 then _ else if isSrc pc = false then _ else _)
      rw [if_neg hz,if_neg (by simp [hsr])]
     have HREC:=Aside0.mk hrec
     clear hrec hz hpn hq
     rcases Bool.eq_false_or_eq_true u with hu | hu
     all_goals
      subst hu
      go_wp2_with fail
      go_roundg k
      case measure=>omega
      case rel=>
       refine ⟨p + n,o ++ q,_,rfl,rfl,⟨by omega,by omega,by have:=HA.out.2.2.1;omega,by rw [ByteArray.size_append];push_cast;omega,HREC.out,?_,HXX.out.bset (HBB.out.trans (pw_below_drewN (Below.refl _ _) _)) 4 _⟩⟩
       have hnot:(!decide (pc ≤ 65535)) = decide (65535 < pc):=by by_cases h:pc ≤ 65535 <;> simp [h] <;> omega
       first
       | exact HXX.out.set4 true
       | (rw [hnot];exact HXX.out.set4 (decide (65535 < pc)))
  ·have hltb:decide (p < (x.s.size:Int)) = false:=decide_eq_false hlt
   have hfin:R = (none,u):=by
    rw [← HA.out.2.2.2.2.1]
    cases gk with
    | zero=>rfl
    | succ k=>rw [txt,if_pos (by omega)]
   have HF:=Aside0.mk hfin
   clear hfin
   go_wp2_with fail
   refine (fail_any base g { x with unsure:=u } _ HL.out).mono ?_
   rintro e w2 ⟨rfl,hX2,hB2⟩
   have HX2:=Aside0.mk hX2
   have HB2:=Aside0.mk hB2
   clear hX2 hB2
   go_wp2_with fail
   first | go_end0 | ((try simp only [Exit.inBlock,Exit.then]);refine bodyPost_ret (results_none rfl _ _ _) rfl ?_)
   rw [HF.out]
   exact ⟨rfl,HX2.out,HBB.out.trans HB2.out⟩
def isDg (c:Int):Bool:=decide (48 ≤ c) && decide (c ≤ 57)
def isBg (c:Int):Bool:=(decide (97 ≤ c) && decide (c ≤ 122)) || (decide (65 ≤ c) && decide (c ≤ 90)) || c == 95
def isNm (c:Int):Bool:=isBg c || isDg c
theorem isDg_iff (c:Int):isDg c = true ↔ 48 ≤ c ∧ c ≤ 57:=by simp [isDg]
theorem isBg_iff (c:Int):isBg c = true ↔ (97 ≤ c ∧ c ≤ 122) ∨ (65 ≤ c ∧ c ≤ 90) ∨ c = 95:=by simp [isBg,or_assoc]
theorem isNm_iff (c:Int):isNm c = true ↔ (97 ≤ c ∧ c ≤ 122) ∨ (65 ≤ c ∧ c ≤ 90) ∨ c = 95 ∨ (48 ≤ c ∧ c ≤ 57):=by simp [isNm,isBg,isDg,or_assoc]
theorem nx_in {s:ByteArray} {p:Int} (h:nx s p ≠ 0):p < (s.size:Int):=by
 unfold nx at h
 split at h
 ·assumption
 ·exact absurd rfl h
theorem nx_bt {s:ByteArray} {p:Int} (h:p < (s.size:Int)):nx s p = bt s p:=if_pos h
def whl (s:ByteArray) (f:Int → Bool):Nat → Int → Int
 | 0,p=>p
 | k + 1,p=>if f (nx s p) = true then whl s f k (p + 1) else p
def run (s:ByteArray) (f:Int → Bool) (p:Int):Int:=whl s f (((s.size:Int) - p).toNat + 1) p
theorem run_eq (s:ByteArray) (f:Int → Bool) (hf:f 0 = false) (p:Int):run s f p = if f (nx s p) = true then run s f (p + 1) else p:=by
 unfold run
 rw [whl]
 by_cases h:f (nx s p) = true
 ·rw [if_pos h,if_pos h]
  have hlt:p < (s.size:Int):=nx_in (fun h0=>by rw [h0,hf] at h;cases h)
  rw [show ((s.size:Int) - p).toNat = ((s.size:Int) - (p + 1)).toNat + 1 by omega]
 ·rw [if_neg h,if_neg h]
theorem whl_le (s:ByteArray) (f:Int → Bool) (hf:f 0 = false):∀ (k:Nat) (p:Int),p ≤ whl s f k p ∧ (p ≤ s.size → whl s f k p ≤ s.size)
 | 0,p=>⟨Int.le_refl _,fun h=>h⟩
 | k + 1,p=>by
  rw [whl]
  by_cases h:f (nx s p) = true
  ·have hlt:p < (s.size:Int):=nx_in (fun h0=>by rw [h0,hf] at h;cases h)
   rw [if_pos h]
   have:=whl_le s f hf k (p + 1)
   omega
  ·rw [if_neg h]
   exact ⟨Int.le_refl _,fun h=>h⟩
theorem run_le (s:ByteArray) (f:Int → Bool) (hf:f 0 = false) (p:Int):p ≤ run s f p ∧ (p ≤ s.size → run s f p ≤ s.size):=whl_le s f hf _ p
def dge (s:ByteArray) (p:Int):Int:=run s isDg p
def nme (s:ByteArray) (p:Int):Int:=run s isNm p
theorem dge_eq (s:ByteArray) (p:Int):dge s p = if isDg (nx s p) = true then dge s (p + 1) else p:=run_eq s isDg rfl p
theorem nme_eq (s:ByteArray) (p:Int):nme s p = if isNm (nx s p) = true then nme s (p + 1) else p:=run_eq s isNm rfl p
theorem dge_le (s:ByteArray) (p:Int):p ≤ dge s p ∧ (p ≤ s.size → dge s p ≤ s.size):=run_le s isDg rfl p
theorem nme_le (s:ByteArray) (p:Int):p ≤ nme s p ∧ (p ≤ s.size → nme s p ≤ s.size):=run_le s isNm rfl p
theorem dge_none {s:ByteArray} {p:Int} (h:isDg (nx s p) = false):dge s p = p:=by rw [dge_eq,if_neg (by simp [h])]
theorem dge_some {s:ByteArray} {p:Int} (h:isDg (nx s p) = true):dge s p = dge s (p + 1) ∧ p < dge s p:=by
 have e:dge s p = dge s (p + 1):=by rw [dge_eq,if_pos h]
 have:=(dge_le s (p + 1)).1
 exact ⟨e,by omega⟩
def frac (s:ByteArray) (t:Int):Option (Int × Int):=if nx s t = 46 then (if isDg (nx s (t + 1)) = true then some (17,dge s (t + 1)) else none) else some (16,t)
def epl (s:ByteArray) (t:Int):Int:=if nx s (t + 1) = 43 ∨ nx s (t + 1) = 45 then t + 2 else t + 1
def expo (s:ByteArray) (k t:Int):Option (Int × Int):=if nx s t = 101 ∨ nx s t = 69 then (if isDg (nx s (epl s t)) = true then some (17,dge s (epl s t)) else none) else some (k,t)
def sgnp (s:ByteArray) (p:Int):Int:=if nx s p = 45 then p + 1 else p
def num (s:ByteArray) (p:Int):Option (Int × Int):=
 if isDg (nx s (sgnp s p)) = false ∨ nx s (sgnp s p) = 48 ∧ isDg (nx s (sgnp s p + 1)) = true then none
 else (frac s (dge s (sgnp s p))).bind fun q=>expo s q.1 q.2
def st3 (s:ByteArray) (p a b c:Int):Bool:=nx s p == a && nx s (p + 1) == b && nx s (p + 2) == c
def sgn (c:Int):Int:=if c = 33 then 2 else if c = 36 then 3 else if c = 40 then 4 else if c = 41 then 5 else if c = 58 then 7 else if c = 61 then 8 else if c = 64 then 9 else if c = 91 then 10 else if c = 93 then 11 else if c = 123 then 12 else if c = 124 then 13 else if c = 125 then 14 else if c = 38 then 20 else 0
inductive Stp where
 | skip (p:Int) (u:Bool)
 | bad (p:Int) (u:Bool)
 | tok (k:Int) (v:ByteArray) (e:Int) (u:Bool)
def LS.stp (x:LS):Stp → LS
 | .skip p u=>{ x with at_:=p,unsure:=u }
 | .bad p u=>{ x with at_:=p,bad:=true,unsure:=u }
 | .tok k v e u=>{ x with at_:=e,out:=x.out ++ [⟨k,v,x.at_,e⟩],unsure:=u }
def cm (s:ByteArray):Nat → Int → Bool → Stp
 | 0,p,u=>.skip p u
 | k + 1,p,u=>
  if (s.size:Int) ≤ p then .skip p u
  else if bt s p = 10 ∨ bt s p = 13 then .skip p u
  else if (ptS s p).2 = 0 then .bad p true
  else cm s k (p + (ptS s p).2) (u || decide (65535 < (ptS s p).1) || !isSrc (ptS s p).1 || decide (128 ≤ (ptS s p).1))
def nums (s:ByteArray) (p:Int) (u:Bool):Stp:=
 match num s p with
 | none=>.bad p u
 | some (k,e)=>if nx s e = 46 ∨ isBg (nx s e) = true then .bad p true else .tok k (s.extract p.toNat e.toNat) e u
def blk (s:ByteArray):Nat → Int → ByteArray → Bool → Option (Int × ByteArray) × Bool
 | 0,_,_,u=>(none,u)
 | k + 1,p,o,u=>
  if (s.size:Int) ≤ p then (none,u)
  else if st3 s p 34 34 34 = true then (some (p + 3,o),u)
  else if (bt s p == 92 && st3 s (p + 1) 34 34 34) = true then blk s k (p + 4) (o ++ ⟨#[34,34,34]⟩) true
  else if (ptS s p).2 = 0 then (none,true)
  else if isSrc (ptS s p).1 = false then (none,u)
  else blk s k (p + (ptS s p).2) (o ++ s.extract p.toNat (p + (ptS s p).2).toNat) (u || decide (65535 < (ptS s p).1))
def ofTxt (p:Int) (k:Int):Option (Int × ByteArray) × Bool → Stp
 | (some q,u)=>.tok k q.2 q.1 u
 | (none,u)=>.bad p u
end Go.Proofs.YtbobbognjmofdaaGreatDoor.Lex
end
section
namespace Go.Proofs.YtbobbognjmofdaaGreatDoor.PFnTokens
open Go.RowKit Go.Proofs.YtbobbognjmofdaaGreatDoorW.PrintWords Go.Proofs.YtbobbognjmofdaaGreatDoorW.PrintLast Go.Proofs.YtbobbognjmofdaaGreatDoorW.PrintMore
attribute [local go_sem] max2_int min2_int max_two min_two
set_option linter.unusedVariables false
set_option linter.unusedSimpArgs false
theorem info9:(Tryz.prog.info? 9).map (fun i=>(i.zero,i.size,i.bytes)) = some (some (.string ⟨#[]⟩),1,16):=by kernel_rfl
end Go.Proofs.YtbobbognjmofdaaGreatDoor.PFnTokens
end
section
namespace Go.Proofs.YtbobbognjmofdaaGreatDoor.PFnTokens
open Go.RowKit Go.Proofs.YtbobbognjmofdaaGreatDoorW.PrintWords Go.Proofs.YtbobbognjmofdaaGreatDoorW.PrintLast Go.Proofs.YtbobbognjmofdaaGreatDoorW.PrintMore
attribute [local go_sem] max2_int min2_int max_two min_two
set_option linter.unusedVariables false
set_option linter.unusedSimpArgs false
def spec_starts.f (a0:ByteArray) (a1:Int) (a2:ByteArray):Option (Bool):=if (wrap64 (a1 + (a2.size:Int))) ≤ (a0.size:Int) then (if 0 ≤ a1 then (if a1 ≤ (wrap64 (a1 + (a2.size:Int))) then (some ((a0.extract (a1:Int).toNat ((wrap64 (a1 + (a2.size:Int))):Int).toNat).toList == a2.toList)) else (none)) else (none)) else (some false)
set_option maxHeartbeats 8000000 in
set_option maxRecDepth 100000 in
theorem spec_starts.calls (a0:ByteArray) (a1:Int) (a2:ByteArray) (r:Bool) (w:World) (h:spec_starts.f a0 a1 a2 = some r) :
  Calls Tryz.prog 58 #[.string a0,.int .i64 a1,.string a2] w fun e w'=>e = .returned (.bool r) ∧ Drawn0 w w':=by
 have H:(if (wrap64 (a1 + (a2.size:Int))) ≤ (a0.size:Int) then (if 0 ≤ a1 then (if a1 ≤ (wrap64 (a1 + (a2.size:Int))) then (some ((a0.extract (a1:Int).toNat ((wrap64 (a1 + (a2.size:Int))):Int).toNat).toList == a2.toList)) else (none)) else (none)) else (some false)) = some r:=h
 clear h
 by_cases c4:(wrap64 (a1 + (a2.size:Int))) ≤ (a0.size:Int)
 ·rw [if_pos c4] at H
  have c4b0:decide ((wrap64 (a1 + (a2.size:Int))) ≤ (a0.size:Int)) = true:=decide_eq_true c4
  clear c4
  by_cases c5:0 ≤ a1
  ·rw [if_pos c5] at H
   have c5b0:=eq_true c5
   have c5b1:decide (0 ≤ a1) = true:=decide_eq_true c5
   clear c5
   by_cases c6:a1 ≤ (wrap64 (a1 + (a2.size:Int)))
   ·rw [if_pos c6] at H
    have c6b0:=eq_true c6
    have c6b1:decide (a1 ≤ (wrap64 (a1 + (a2.size:Int)))) = true:=decide_eq_true c6
    have c7b0:=eq_true (of_decide_eq_true (by first | (with_reducible assumption) | assumption):(wrap64 (a1 + (a2.size:Int))) ≤ (a0.size:Int))
    obtain rfl:=Option.some.inj H
    go_enter Tryz.func58,Tryz.ntmps58
    go_wp2
    go_ret
    exact ⟨by first | rfl | (simp;done) | (simp [*];done),by repeat (first | exact Drawn0.refl _ | apply Drawn0.step)⟩
   ·rw [if_neg c6] at H
    exact absurd H (by simp)
  ·rw [if_neg c5] at H
   exact absurd H (by simp)
 ·rw [if_neg c4] at H
  have c4b0:decide ((wrap64 (a1 + (a2.size:Int))) ≤ (a0.size:Int)) = false:=decide_eq_false c4
  clear c4
  obtain rfl:=Option.some.inj H
  go_enter Tryz.func58,Tryz.ntmps58
  go_wp2
  go_ret
  exact ⟨by first | rfl | (simp;done) | (simp [*];done),by repeat (first | exact Drawn0.refl _ | apply Drawn0.step)⟩
end Go.Proofs.YtbobbognjmofdaaGreatDoor.PFnTokens
end
end
