import Derived.Test.YtbobbognjmofdaaGreatDoorV12
import Derived.Test.YtbobbognjmofdaaGreatDoorV03
import Derived.Test.YtbobbognjmofdaaGreatDoorProg
import Derived.Laws.RangeAny
import Derived.Laws.RangeString
import Derived.LoopTactic
import Derived.Test.YtbobbognjmofdaaGreatDoorV08
import Derived.Below
import Derived.Deep.Draws
import Derived.Deep.AppendLies
import Derived.Maps.AppendAt
import Derived.OwnWalk
import Derived.Laws.BytesArg
import Derived.Laws.MakeOwn
import Derived.Laws.OwnMore
import Derived.Deep.OwnRows
import Derived.Tactics
import Derived.Lib.ConvBytes
import Derived.Laws.Slices
import Derived.WalkKit
import Derived.KernelRfl
import Derived.RowKit3
import Derived.Deep.LoopGhost
import Derived.Deep.QuietTactic
import Derived.BigQuiet
import Derived.WideLaws
import Derived.Deep.DeepCutAuto
import Derived.Deep.CutBlock
import Derived.Deep.RegionHeld3
import Derived.Laws.Rows
import Derived.Lib.AppendStr
import Derived.ArgAppend
import Derived.Laws.IdiomCopy
import Derived.OrdersHeld
import Derived.Laws.BitsLemmas
import Derived.RowKit
import Derived.Test.YtbobbognjmofdaaGreatDoorV01
import Derived.Test.YtbobbognjmofdaaGreatDoorV02
section
section
namespace Go.Proofs.YtbobbognjmofdaaGreatDoor.Lex
open Go.RowKit Go.Proofs.YtbobbognjmofdaaGreatDoorW.PrintWords Go.Proofs.YtbobbognjmofdaaGreatDoorW.PrintLast Go.Proofs.YtbobbognjmofdaaGreatDoorW.PrintMore
open Go.Proofs.YtbobbognjmofdaaGreatDoor.Ptext
set_option linter.unusedVariables false
set_option linter.unusedSimpArgs false
theorem rn_nm (s:ByteArray) (p:Int) (h0:0 ≤ p):(isNm (rn s p).1 = true ↔ isNm (nx s p) = true):=by
 have hr:=nx_range s p
 by_cases h:0 < nx s p ∧ nx s p < 128
 ·rw [rn_ascii s p h0 h.1 h.2]
 ·have:=rn_other s p h0 (by omega)
  rw [isNm_iff,isNm_iff]
  exact ⟨fun h1=>by omega,fun h1=>by omega⟩
set_option maxRecDepth 4000 in
set_option maxHeartbeats 4000000 in
theorem readName_any (s:ByteArray) (g b c:Nat) (p:Int) (w:World) (h:Src w b c s) (hg:w.cell? ⟨g,0,none⟩ = some (.slice (some ⟨b,0,none⟩) s.size c)) (hs:s.size ≤ 2000) (h0:0 ≤ p) (hp:p < s.size) :
  Calls Tryz.prog 106 #[.pointer (some ⟨g,0,none⟩),.int .i64 p,.int .i64 p] w fun e w'=>e = .returned (tk 15 p (nme s (p + 1)) (s.extract p.toNat (nme s (p + 1)).toNat)) ∧ Below w.heap.size w w':=by
 have hg1:∀ o,(w.alloc o).cell? ⟨g,0,none⟩ = some (.slice (some ⟨b,0,none⟩) s.size c):=fun o=>PFnReadString.old_cell (below_alloc (Below.refl _ _) o) hg
 have HS:=Aside0.mk h
 obtain ⟨R,hR⟩:∃ R,R = nme s (p + 1):=⟨_,rfl⟩
 rw [← hR]
 have HR:=Aside0.mk hR
 obtain ⟨v,hv⟩:∃ v,v = s.extract p.toNat R.toNat:=⟨_,rfl⟩
 rw [← hv]
 have HV:=Aside0.mk hv
 clear hv
 clear h hg hR
 go_enter Tryz.func106,Tryz.ntmps106
 go_wp2_with fail
 obtain ⟨W1,hW1⟩:∃ W1,W1 = w.alloc (.cells #[.int .i64 0,.int .i64 0,.int .i64 0,.string ⟨#[]⟩] 58):=⟨_,rfl⟩
 have hB1:Below w.heap.size w W1:=by rw [hW1];exact below_alloc (Below.refl _ _) _
 have hE1:W1.heap[w.heap.size]? = some (.cells #[.int .i64 0,.int .i64 0,.int .i64 0,.string ⟨#[]⟩] 58 (0,0)):=by
  rw [hW1];exact heap_alloc_new _ _
 have hz1:W1.heap.size = w.heap.size + 1:=by rw [hW1];simp
 rw [← hW1]
 have HB1:=Aside0.mk hB1
 have HE1:=Aside0.mk hE1
 have HZ1:=Aside0.mk hz1
 have HS1:=Aside0.mk (HS.out.below hB1)
 clear hW1 hB1 hE1 hz1 hg1 HS
 go_loopg [9,10] ((s.size:Int) - p).toNat (fun kq v9 v10 wr=>∃ (q:Int),v9 = .int .i64 q ∧ v10 = .int .i64 q ∧ Aside0 (p + 1 ≤ q ∧ q ≤ s.size ∧ kq = ((s.size:Int) - (q - 1)).toNat ∧ nme s q = R ∧ Below W1.heap.size W1 wr))
 case atStart=>exact ⟨p + 1,rfl,rfl,⟨by omega,by omega,by omega,HR.out.symm,Below.refl _ _⟩⟩
 case round=>
  obtain ⟨q,rfl,rfl,HA⟩:=hrel
  have hq1:=HA.out.1
  have hq2:=HA.out.2.1
  have HSr:=Aside0.mk (HS1.out.below HA.out.2.2.2.2)
  have HX:=Aside0.mk HA.out.2.2.2.2
  obtain ⟨⟨cd,n⟩,hrn⟩:∃ r,r = rn s q:=⟨_,rfl⟩
  have hnm:=rn_nm s q (by omega)
  rw [← hrn] at hnm
  have HRN:=Aside0.mk hrn
  obtain ⟨bb,hbb⟩:∃ bb,bb = (q != (s.size:Int) && (cd == 95 || (decide (cd ≥ 48) && decide (cd ≤ 57)) || (decide (cd ≥ 65) && decide (cd ≤ 90)) || (decide (cd ≥ 97) && decide (cd ≤ 122)))):=⟨_,rfl⟩
  have hbb2:bb = isNm (nx s q):=by
   rw [hbb]
   rw [Bool.eq_iff_iff,← hnm,isNm_iff]
   simp only [Bool.and_eq_true,Bool.or_eq_true,bne_iff_ne,beq_iff_eq,decide_eq_true_eq]
   constructor
   ·rintro ⟨h1,h2⟩;show _ ∨ _;omega
   ·intro h2
    refine ⟨?_,by omega⟩
    intro h3
    have h4:cd = -1:=by
     have:=rn_eof s q (by omega)
     rw [← hrn] at this
     exact (Prod.mk.inj this).1
    omega
  have HB2:=Aside0.mk hbb2
  have HBB:=Aside0.mk hbb
  clear hrn hbb hbb2 hnm
  go_wp2_with fail
  refine (runeAt_any s b c q wr HSr.out hs (by omega) (by omega)).mono ?_
  rintro e w2 ⟨rfl,hb2⟩
  rw [← HRN.out]
  have HX2:Aside0 (Below W1.heap.size W1 w2):=⟨below_then HX.out HX.out.size hb2⟩
  clear hb2
  go_upto_region 6 with fail
  go_cut [59] (fun vb wc=>vb = .bool bb ∧ wc = w2)
  case first=>
   by_cases e1:q = (s.size:Int)
   ·have b1:(q != (s.size:Int)) = false:=by simp [e1]
    have h1:bb = false:=by rw [HBB.out,b1];rfl
    have H1:=Aside0.mk h1
    clear h1 e1
    go_wp2_with fail
    go_meet
    case rel=>exact ⟨by rw [H1.out],rfl⟩
   ·have b1:(q != (s.size:Int)) = true:=by simp [e1]
    clear e1
    by_cases e2:cd = 95
    ·have b2:(cd == 95) = true:=by simp [e2]
     have h1:bb = true:=by rw [HBB.out,b1,b2];rfl
     have H1:=Aside0.mk h1
     clear h1 e2
     go_wp2_with fail
     go_meet
     case rel=>exact ⟨by rw [H1.out],rfl⟩
    ·have b2:(cd == 95) = false:=by simp [e2]
     clear e2
     by_cases e3:cd ≥ 48
     ·have b3:decide (cd ≥ 48) = true:=decide_eq_true e3
      by_cases e4:cd ≤ 57
      ·have b4:decide (cd ≤ 57) = true:=decide_eq_true e4
       have h1:bb = true:=by rw [HBB.out,b1,b2,b3,b4];rfl
       have H1:=Aside0.mk h1
       clear h1 e3 e4
       go_wp2_with fail
       go_meet
       case rel=>exact ⟨by rw [H1.out],rfl⟩
      ·have b4:decide (cd ≤ 57) = false:=decide_eq_false e4
       by_cases e5:cd ≥ 65
       ·have b5:decide (cd ≥ 65) = true:=decide_eq_true e5
        by_cases e6:cd ≤ 90
        ·have b6:decide (cd ≤ 90) = true:=decide_eq_true e6
         have h1:bb = true:=by rw [HBB.out,b1,b2,b3,b4,b5,b6];rfl
         have H1:=Aside0.mk h1
         clear h1 e3 e4 e5 e6
         go_wp2_with fail
         go_meet
         case rel=>exact ⟨by rw [H1.out],rfl⟩
        ·have b6:decide (cd ≤ 90) = false:=decide_eq_false e6
         by_cases e7:cd ≥ 97
         ·have b7:decide (cd ≥ 97) = true:=decide_eq_true e7
          have h1:bb = decide (cd ≤ 122):=by rw [HBB.out,b1,b2,b3,b4,b5,b6,b7];simp
          have H1:=Aside0.mk h1
          clear h1 e3 e4 e5 e6 e7
          go_wp2_with fail
          go_meet
          case rel=>exact ⟨by rw [H1.out],rfl⟩
         ·have b7:decide (cd ≥ 97) = false:=decide_eq_false e7
          have h1:bb = false:=by rw [HBB.out,b1,b2,b3,b4,b5,b6,b7];rfl
          have H1:=Aside0.mk h1
          clear h1 e3 e4 e5 e6 e7
          go_wp2_with fail
          go_meet
          case rel=>exact ⟨by rw [H1.out],rfl⟩
       ·have b5:decide (cd ≥ 65) = false:=decide_eq_false e5
        have b7:decide (cd ≥ 97) = false:=decide_eq_false (by omega)
        have h1:bb = false:=by rw [HBB.out,b1,b2,b3,b4,b5,b7];rfl
        have H1:=Aside0.mk h1
        clear h1 e3 e4 e5
        go_wp2_with fail
        go_meet
        case rel=>exact ⟨by rw [H1.out],rfl⟩
     ·have b3:decide (cd ≥ 48) = false:=decide_eq_false e3
      have b5:decide (cd ≥ 65) = false:=decide_eq_false (by omega)
      have b7:decide (cd ≥ 97) = false:=decide_eq_false (by omega)
      have h1:bb = false:=by rw [HBB.out,b1,b2,b3,b5,b7];rfl
      have H1:=Aside0.mk h1
      clear h1 e3
      go_wp2_with fail
      go_meet
      case rel=>exact ⟨by rw [H1.out],rfl⟩
  case rest=>
  obtain ⟨rfl,rfl⟩:=hcut
  obtain ⟨w2,rfl⟩:∃ w9,w9 = wc:=⟨_,rfl⟩
  cases hb:bb with
  | true=>
   have hn:=HB2.out
   rw [hb] at hn
   have hlt:q < (s.size:Int):=nx_in (by intro h;rw [h] at hn;cases hn)
   have hnext:nme s (q + 1) = R:=by rw [← HA.out.2.2.2.1,nme_eq s q,if_pos hn.symm]
   have HN:=Aside0.mk hnext
   clear hb hn hnext
   go_wp2_with fail
   go_roundg ((s.size:Int) - q).toNat
   case measure=>have:=HA.out.2.2.1;omega
   case rel=>exact ⟨q + 1,rfl,rfl,⟨by omega,by omega,by omega,HN.out,HX2.out⟩⟩
  | false=>
   have hn:=HB2.out
   rw [hb] at hn
   have hq:q = R:=by rw [← HA.out.2.2.2.1,nme_eq s q,if_neg (by rw [← hn];simp)]
   subst hq
   clear hb hn
   have HS5:=HS1.out.below HX2.out
   have hcap:(s.size:Int) ≤ (c:Int):=by have:=HS5.le;omega
   have hne:¬ (c = p.toNat):=by omega
   have kc:=conv_sub w2 b c s p q HS5 h0 (by omega) hq2 (c - p.toNat)
   rw [← HV.out] at kc
   clear HS5
   go_wp2_with fail
   refine (PFnReadString.lexer_makeToken.calls 15 p q v 15 p q v _ rfl).mono ?_
   rintro e w9 ⟨rfl,hb9⟩
   have HX9:Aside0 (Below W1.heap.size W1 w9):=⟨below_then HX2.out HX2.out.size hb9⟩
   clear hb9
   have e0:w9.heap[w.heap.size]? = some (.cells #[.int .i64 0,.int .i64 0,.int .i64 0,.string ⟨#[]⟩] 58 (0,0)):=(HX9.out.block _ (by have:=HZ1.out;omega)).trans HE1.out
   have d0:=(blk_cell e0 0).trans rfl
   have d1:=(blk_cell e0 1).trans rfl
   have d2:=(blk_cell e0 2).trans rfl
   have d3:=(blk_cell e0 3).trans rfl
   have f0:=fun j=>blk_frozen e0 j
   have E0:=Aside0.mk e0
   clear e0 kc
   go_wp2_with fail
   obtain ⟨q0,q1,q2,q3⟩:=res4 E0.out (.int .i64 15) (.int .i64 p) (.int .i64 q) (.string v)
   refine bodyPost_ret (v:=tk 15 p q v) (by simp [results,Tryz.results106,go_sem,q0,q1,q2,q3]) rfl ⟨rfl,?_⟩
   exact set4_below (HB1.out.trans (HX9.out.mono (by have:=HZ1.out;omega))) (Nat.le_refl _) _ _ _ _
end Go.Proofs.YtbobbognjmofdaaGreatDoor.Lex
end
section
namespace Go.Proofs.YtbobbognjmofdaaGreatDoor
open Go.RowKit Go.Proofs.YtbobbognjmofdaaGreatDoorW.PrintWords Go.Proofs.YtbobbognjmofdaaGreatDoorW.PrintLast Go.Proofs.YtbobbognjmofdaaGreatDoorW.PrintMore
def joinBytes (l:List ByteArray) (sep:ByteArray):List UInt8:=Lib.join (l.map (·.data.toList)) sep.data.toList
def strings_Join.f (l:List ByteArray) (sep:ByteArray):Option ByteArray:=
 if l.length ≤ 140737488355328 ∧ (joinBytes l sep).length ≤ 140737488355328 then some ⟨(joinBytes l sep).toArray⟩ else none
theorem strings_Join.calls (A0:Option Addr) (c0:Nat) (l0:List ByteArray) (a1:ByteArray) (r:ByteArray) (w:World) (hr0:Kd.C Kd.string w A0 l0.length l0) (hc0:l0.length ≤ c0) (h:strings_Join.f l0 a1 = some r) :
  Calls Tryz.prog 175 #[.slice A0 l0.length c0,.string a1] w fun e w'=>e = .returned (.string r) ∧ Below w.heap.size w w':=by
 unfold strings_Join.f at h
 split at h
 ·rename_i hb
  obtain rfl:=Option.some.inj h
  obtain ⟨hl,hj⟩:=hb
  by_cases h0:l0 = []
  ·subst h0
   refine (Tryz.strings_Join_none A0 c0 a1 w).mono ?_
   rintro e w' ⟨rfl,rfl⟩
   exact ⟨rfl,Below.refl _ _⟩
  ·have hpos:0 < l0.length:=List.length_pos_iff.2 h0
   have hat:=fun (j:Nat) (hj:j < l0.length)=>Kd.at_string hr0 (j:Int) (by omega) (by omega)
   obtain ⟨ad,rfl,hx⟩:=hat 0 hpos
   have hsp:ad.spot = none:=by
    rcases ad with ⟨b,o,s⟩
    cases s with
    | none=>rfl
    | some s=>
     simp [World.cell?,Addr.add] at hx
     split at hx <;> cases hx
   rcases ad with ⟨b,o,s⟩
   simp only at hsp
   subst hsp
   refine Tryz.strings_Join b o c0 l0 a1 w (fun j x hjx=>?_) ?_ hl hc0 hj
   ·have hlt:j < l0.length:=(List.getElem?_eq_some_iff.1 hjx).1
    obtain ⟨ad',e',hx'⟩:=hat j hlt
    cases e'
    rw [Int.toNat_natCast] at hx'
    have he:(⟨b,o,none⟩:Addr).add j = ⟨b,o + j,none⟩:=by unfold Addr.add;split <;> simp_all
    rw [he] at hx'
    rw [hx']
    unfold rdOf
    rw [Int.toNat_natCast,List.getD_eq_getElem?_getD,hjx]
    rfl
   ·exact World.block_lt_of_cell? w _ hx
 ·cases h
end Go.Proofs.YtbobbognjmofdaaGreatDoor
end
section
namespace Go.Proofs.YtbobbognjmofdaaGreatDoor
open Go.RowKit Go.Proofs.YtbobbognjmofdaaGreatDoorW.PrintWords Go.Proofs.YtbobbognjmofdaaGreatDoorW.PrintLast Go.Proofs.YtbobbognjmofdaaGreatDoorW.PrintMore
set_option linter.unusedVariables false
set_option linter.unusedSimpArgs false
open Bv (wht lead lead_le lead_drop)
def lexer_leadingWhitespaceLen.f (s:ByteArray):Option Int:=if s.size ≤ 4611686018427387904 then some (lead s.data.toList) else none
set_option maxHeartbeats 800000 in
theorem lexer_leadingWhitespaceLen.calls (a0:ByteArray) (r:Int) (w:World) (h:lexer_leadingWhitespaceLen.f a0 = some r) :
  Calls Tryz.prog 173 #[.string a0] w fun e w'=>e = .returned (.int .i64 r) ∧ Below w.heap.size w w':=by
 unfold lexer_leadingWhitespaceLen.f at h
 split at h
 ·rename_i hs
  have HR:=Aside0.mk (Option.some.inj h)
  clear h
  go_enter Tryz.func173,Tryz.ntmps173
  go_wp2_with fail
  go_loopw [2] (fun n w'=>∃ pos:Nat,pos ≤ a0.size ∧ w' = w.iter a0 pos ∧ n = .int .i64 (pos:Int) ∧ Aside0 (∀ (j:Nat) (c:UInt8),j < pos → a0.data.toList[j]? = some c → wht c = true)) (fun _ w'=>a0.size - w'.iterPos w.heap.size)
  case atStart=>exact ⟨0,by omega,rfl,rfl,⟨fun j c hj=>by omega⟩⟩
  case round=>
   obtain ⟨pos,hpos,rfl,rfl,HA⟩:=hrel
   by_cases hp:pos < a0.size
   ·have hnx:∀ ty,(Instr.next (.pointer (some ⟨w.heap.size,0,none⟩)) true ty).run Tryz.prog (w.iter a0 pos) = _:=fun ty=>run_next_any w a0 pos ty hp
    have hz:(pos:Int) ≤ 4611686018427387904:=by omega
    have hget:a0.data.toList[pos]? = some (a0[pos]'hp):=by
     rw [List.getElem?_eq_getElem (by rw [Array.length_toList];exact hp)]
     rfl
    have HG:=Aside0.mk hget
    clear hget
    by_cases hc:wht (a0[pos]'hp) = true
    ·have hv:a0[pos]'hp = 32 ∨ a0[pos]'hp = 9:=by
      unfold wht at hc
      rcases Bool.or_eq_true _ _ ▸ hc with h | h
      ·exact .inl (beq_iff_eq.1 h)
      ·exact .inr (beq_iff_eq.1 h)
     have hstep:∀ (j:Nat) (c:UInt8),j < pos + 1 → a0.data.toList[j]? = some c → wht c = true:=by
      intro j c hj hjc
      by_cases e:j = pos
      ·subst e
       rw [HG.out] at hjc
       injection hjc with hjc
       rw [← hjc];exact hc
      ·exact HA.out j c (by omega) hjc
     have HS:=Aside0.mk hstep
     clear hstep hc
     rcases hv with hv | hv
     ·have hd:Utf8.decode a0 pos = (32,1):=by rw [decode_ascii a0 pos hp (by rw [hv];decide),hv];rfl
      simp only [hd] at hnx
      clear hd hv
      go_wp2_with fail
      go_roundw
      case rel=>exact ⟨pos + 1,by omega,rfl,by go_num,HS⟩
      case measure=>
       simp
       omega
     ·have hd:Utf8.decode a0 pos = (9,1):=by rw [decode_ascii a0 pos hp (by rw [hv];decide),hv];rfl
      simp only [hd] at hnx
      clear hd hv
      go_wp2_with fail
      go_roundw
      case rel=>exact ⟨pos + 1,by omega,rfl,by go_num,HS⟩
      case measure=>
       simp
       omega
    ·have hne:(Utf8.decode a0 pos).1 ≠ 32 ∧ (Utf8.decode a0 pos).1 ≠ 9:=by
      by_cases ha:(a0[pos]'hp).toNat < 128
      ·rw [decode_ascii a0 pos hp ha]
       refine ⟨fun h=>hc ?_,fun h=>hc ?_⟩
       ·have:a0[pos]'hp = 32:=UInt8.toNat_inj.1 h
        rw [this];rfl
       ·have:a0[pos]'hp = 9:=UInt8.toNat_inj.1 h
        rw [this];rfl
      ·have:=(decode_high a0 pos hp (by omega)).1
       omega
     have hfin:(pos:Int) = r:=by
      rw [← HR.out,lead_drop a0.data.toList pos HA.out (by rw [Array.length_toList];exact hpos)]
      obtain ⟨hl,he⟩:=List.getElem?_eq_some_iff.1 HG.out
      rw [List.drop_eq_getElem_cons hl,he]
      have hc':wht (a0[pos]'hp) = false:=by simpa using hc
      simp [lead,List.takeWhile_cons,hc']
     have HF:=Aside0.mk hfin
     obtain ⟨d,hd⟩:∃ d,d = (Utf8.decode a0 pos).1:=⟨_,rfl⟩
     obtain ⟨q,hq⟩:∃ q,q = pos + (Utf8.decode a0 pos).2:=⟨_,rfl⟩
     simp only [← hd,← hq] at hnx
     rw [← hd] at hne
     have h1:((d:Int) == 32) = false:=beq_eq_false_iff_ne.2 (by omega)
     have h2:((d:Int) == 9) = false:=beq_eq_false_iff_ne.2 (by omega)
     clear hc hfin hne hd hq
     go_wp2_with fail
     go_ret
     exact ⟨by rw [HF.out];rfl,by unfold World.iter;exact below_alloc (Below.refl _ _) _⟩
   ·have hnx:∀ ty,(Instr.next (.pointer (some ⟨w.heap.size,0,none⟩)) true ty).run Tryz.prog (w.iter a0 pos) = _:=fun ty=>run_next_end w a0 pos ty hp
    have hfin:(pos:Int) = r:=by
     rw [← HR.out,lead_drop a0.data.toList pos HA.out (by rw [Array.length_toList];exact hpos)]
     rw [List.drop_of_length_le (by rw [Array.length_toList];show a0.size ≤ pos;omega)]
     simp [lead]
    have HF:=Aside0.mk hfin
    clear hfin
    go_wp2_with fail
    go_ret
    exact ⟨by rw [HF.out];rfl,by unfold World.iter;exact below_alloc (Below.refl _ _) _⟩
 ·cases h
end Go.Proofs.YtbobbognjmofdaaGreatDoor
end
section
namespace Go.Proofs.YtbobbognjmofdaaGreatDoor.PBsv
open Go.RowKit Go.Proofs.YtbobbognjmofdaaGreatDoorW.PrintWords Go.Proofs.YtbobbognjmofdaaGreatDoorW.PrintLast Go.Proofs.YtbobbognjmofdaaGreatDoorW.PrintMore
attribute [local go_sem] max2_int min2_int max_two min_two
set_option linter.unusedVariables false
set_option linter.unusedSimpArgs false
theorem info9:(Tryz.prog.info? 9).map (fun i=>(i.zero,i.size,i.bytes)) = some (some (.string ⟨#[]⟩),1,16):=by kernel_rfl
end Go.Proofs.YtbobbognjmofdaaGreatDoor.PBsv
end
section
namespace Go.Proofs.YtbobbognjmofdaaGreatDoor.PBsv
open Go.RowKit Go.Proofs.YtbobbognjmofdaaGreatDoorW.PrintWords Go.Proofs.YtbobbognjmofdaaGreatDoorW.PrintLast Go.Proofs.YtbobbognjmofdaaGreatDoorW.PrintMore
attribute [local go_sem] max2_int min2_int max_two min_two
set_option linter.unusedVariables false
set_option linter.unusedSimpArgs false
mutual
def lexer_zzLines.l0:Nat → ByteArray → List ByteArray → Int → Int → Option (List ByteArray)
 | 0,_,_,_,_=>none
 | k + 1,x0,x3,x4,x5=>if x5 < (x0.size:Int) then (if 0 ≤ x5 then (if (bt x0 x5) = 13 then (lexer_zzLines.j1 k x0 x3 x4 x5 false) else (lexer_zzLines.j1 k x0 x3 x4 x5 ((bt x0 x5) != 10))) else (none)) else (if 0 ≤ x4 then (if x4 ≤ (x0.size:Int) then (if x3.length < 8796093022208 then (some (x3 ++ [x0.extract (x4:Int).toNat x0.size])) else (none)) else (none)) else (none))
def lexer_zzLines.j1:Nat → ByteArray → List ByteArray → Int → Int → Bool → Option (List ByteArray)
 | 0,_,_,_,_,_=>none
 | k + 1,x0,x3,x4,x5,x21=>if x21 = true then (lexer_zzLines.l0 k x0 x3 x4 (wrap64 (x5 + 1))) else (if 0 ≤ x4 then (if x4 ≤ x5 then (if x5 ≤ (x0.size:Int) then (if x3.length < 8796093022208 then ((some (x3 ++ [x0.extract (x4:Int).toNat (x5:Int).toNat]:List ByteArray)).bind fun y104=>(if 0 ≤ x5 then (if x5 < (x0.size:Int) then (if (bt x0 x5) = 13 then (if (wrap64 (x5 + 1)) < (x0.size:Int) then (if 0 ≤ (wrap64 (x5 + 1)) then (if (bt x0 (wrap64 (x5 + 1))) = 10 then (lexer_zzLines.l0 k x0 y104 (wrap64 ((wrap64 (x5 + 1)) + 1)) (wrap64 ((wrap64 (x5 + 1)) + 1))) else (lexer_zzLines.l0 k x0 y104 (wrap64 (x5 + 1)) (wrap64 (x5 + 1)))) else (none)) else (lexer_zzLines.l0 k x0 y104 (wrap64 (x5 + 1)) (wrap64 (x5 + 1)))) else (lexer_zzLines.l0 k x0 y104 (wrap64 (x5 + 1)) (wrap64 (x5 + 1)))) else (none)) else (none))) else (none)) else (none)) else (none)) else (none))
end
def lexer_zzLines.f (k:Nat) (a0:ByteArray):Option (List ByteArray):=lexer_zzLines.l0 k a0 ([]:List ByteArray) 0 0
set_option maxHeartbeats 8000000 in
set_option maxRecDepth 100000 in
theorem lexer_zzLines.calls (k:Nat) (a0:ByteArray) (r:List ByteArray) (w:World) (h:lexer_zzLines.f k a0 = some r) :
  Calls Tryz.prog 172 #[.string a0] w fun e w'=>∃ v0_:Value,e = .returned (v0_) ∧ Kd.R Kd.string 9 w' w.heap.size (fun _=>True) v0_ r ∧ Below w.heap.size w w':=by
 have HB:=Aside0.mk (Below.refl w.heap.size w)
 have H:(lexer_zzLines.l0 k a0 ([]:List ByteArray) 0 0) = some r:=h
 clear h
 have H':=Aside0.mk H
 clear H
 go_enter Tryz.func172,Tryz.ntmps172
 go_wp2
 go_loopg [3,4,5] k (fun kq v3 v4 v5 w'=>∃ (x3_1:List ByteArray) (x4_1:Int) (x5_1:Int),v4 = .int .i64 x4_1 ∧ v5 = .int .i64 x5_1 ∧ Aside0 (lexer_zzLines.l0 kq a0 x3_1 x4_1 x5_1 = some r) ∧ Aside0 (kq ≤ k) ∧ Aside0 (Kd.R Kd.string 9 w' w.heap.size (fun _=>True) v3 x3_1) ∧ Aside0 (Below w.heap.size w w'))
 case atStart=>exact ⟨(([]:List ByteArray)),(0),(0),(by first | rfl | (simp;done) | (simp [*];done)),(by first | rfl | (simp;done) | (simp [*];done)),H',⟨Nat.le_refl _⟩,⟨by first | exact Kd.R_nil _ _ _ _ _ | exact Kd.N_nil _ _ _ _ _ | exact Kd.V_nil _ _ _ _ _ | exact Kd.Q_nil _ _ _ _ _ | exact Kd.S_nil _ _ _ _ _⟩,⟨by repeat (first | (with_reducible first | exact HB.out | apply below_alloc | apply pw_below_drewN | apply below_drew1) | exact HB.out)⟩⟩
 case round=>
  clear H'
  try clear c1
  obtain ⟨x3_1,x4_1,x5_1,rfl,rfl,HA,HK1,HO_3,HB⟩:=hrel
  cases gk with
  | zero=>exact absurd HA.out (by simp [lexer_zzLines.l0])
  | succ k1=>
   have H:=HA.out
   clear HA
   simp only [lexer_zzLines.l0] at H
   by_cases c2:x5_1 < (a0.size:Int)
   ·rw [if_pos c2] at H
    have c2b0:decide (x5_1 < (a0.size:Int)) = true:=decide_eq_true c2
    clear c2
    have HC3:=Aside0.mk H
    clear H
    go_upto_region 6 with (fail)
    go_cut [21] (fun v21 wc=>∃ (kq:Nat) (x21_2:Bool),v21 = .bool x21_2 ∧ Aside0 (lexer_zzLines.j1 kq a0 x3_1 x4_1 x5_1 x21_2 = some r) ∧ Aside0 (kq ≤ k1) ∧ Aside0 (Kd.R Kd.string 9 wc w.heap.size (fun _=>True) u3 x3_1) ∧ Aside0 (Below w.heap.size w wc))
    case first=>
     have H:=HC3.out
     clear HC3
     by_cases c4:0 ≤ x5_1
     ·rw [if_pos c4] at H
      have c4b0:decide (0 ≤ x5_1) = true:=decide_eq_true c4
      clear c4
      (first | rw [c4b0] | (simp only [i64_w,i32_w];rw [c4b0]) | skip)
      by_cases c6:(bt a0 x5_1) = 13
      ·rw [if_pos c6] at H
       have c6b0:((bt a0 x5_1) == 13) = true:=beq_iff_eq.mpr c6
       have c6b1:((bt a0 x5_1) != 13) = false:=bne_eq_false_iff_eq.mpr c6
       clear c6
       have H':=Aside0.mk H
       clear H
       have p5:0 ≤ (x5_1:Int):=of_decide_eq_true (by first | (with_reducible assumption) | assumption)
       have q5:x5_1 < (a0.size:Int):=of_decide_eq_true (by first | (with_reducible assumption) | assumption)
       have hx5:=bt_at a0 x5_1
       replace p5:=eq_true p5
       replace q5:=eq_true q5
       go_wp2
       go_meet
       case rel=>exact ⟨_,(false),(by first | rfl | (simp;done) | (simp [*];done)),H',⟨by have:=HK1.out;first | omega | exact Nat.le_refl _⟩,⟨by (with_reducible repeat (first | apply Kd.R_alloc | apply Kd.R_drewN | apply Kd.R_drew));exact HO_3.out⟩,⟨by repeat (first | (with_reducible first | exact HB.out | apply below_alloc | apply pw_below_drewN | apply below_drew1) | exact HB.out)⟩⟩
      ·rw [if_neg c6] at H
       have c6b0:((bt a0 x5_1) == 13) = false:=beq_eq_false_iff_ne.mpr c6
       have c6b1:((bt a0 x5_1) != 13) = true:=bne_iff_ne.mpr c6
       have H':=Aside0.mk H
       clear H
       have p5:0 ≤ (x5_1:Int):=of_decide_eq_true (by first | (with_reducible assumption) | assumption)
       have q5:x5_1 < (a0.size:Int):=of_decide_eq_true (by first | (with_reducible assumption) | assumption)
       have hx5:=bt_at a0 x5_1
       replace p5:=eq_true p5
       replace q5:=eq_true q5
       have p7:0 ≤ (x5_1:Int):=of_decide_eq_true (by first | (with_reducible assumption) | assumption)
       have q7:x5_1 < (a0.size:Int):=of_decide_eq_true (by first | (with_reducible assumption) | assumption)
       have hx7:=bt_at a0 x5_1
       replace p7:=eq_true p7
       replace q7:=eq_true q7
       go_wp2
       go_meet
       case rel=>exact ⟨_,(((bt a0 x5_1) != 10)),(by first | rfl | (simp;done) | (simp [*];done)),H',⟨by have:=HK1.out;first | omega | exact Nat.le_refl _⟩,⟨by (with_reducible repeat (first | apply Kd.R_alloc | apply Kd.R_drewN | apply Kd.R_drew));exact HO_3.out⟩,⟨by repeat (first | (with_reducible first | exact HB.out | apply below_alloc | apply pw_below_drewN | apply below_drew1) | exact HB.out)⟩⟩
     ·rw [if_neg c4] at H
      exact absurd H (by simp)
    case rest=>
     clear HC3
     try clear c1
     try clear c2
     try clear c2b0
     try clear p2
     try clear c4
     try clear c4b0
     try clear p5
     try clear q5
     try clear hx5
     try clear c6
     try clear c6b0
     try clear c6b1
     try clear p7
     try clear q7
     try clear hx7
     try clear p5
     try clear p7
     try clear q5
     try clear q7
     obtain ⟨kq,x21_2,rfl,HA,HJ2,HO_3,HB⟩:=hcut
     cases kq with
     | zero=>exact absurd HA.out (by simp [lexer_zzLines.j1])
     | succ kj2=>
      have H:=HA.out
      clear HA
      simp only [lexer_zzLines.j1] at H
      by_cases c8:x21_2 = true
      ·subst c8
       have H1:(lexer_zzLines.l0 kj2 a0 x3_1 x4_1 (wrap64 (x5_1 + 1))) = some r:=by rw [if_pos rfl] at H;exact H
       clear H
       have H:=H1
       clear H1
       have H':=Aside0.mk H
       clear H
       go_wp2
       go_roundg kj2
       case measure=>have:=HK1.out;have:=HJ2.out;omega
       case rel=>exact ⟨(x3_1),(x4_1),(wrap64 (x5_1 + 1)),(by first | rfl | (simp;done) | (simp [*];done)),(by first | rfl | (simp;done) | (simp [*];done)),H',⟨by have:=HK1.out;have:=HJ2.out;omega⟩,⟨by (with_reducible repeat (first | apply Kd.R_alloc | apply Kd.R_drewN | apply Kd.R_drew));exact HO_3.out⟩,⟨by repeat (first | (with_reducible first | exact HB.out | apply below_alloc | apply pw_below_drewN | apply below_drew1) | exact HB.out)⟩⟩
      ·replace c8:=Bool.eq_false_iff.mpr c8
       subst c8
       have H1:(if 0 ≤ x4_1 then (if x4_1 ≤ x5_1 then (if x5_1 ≤ (a0.size:Int) then (if x3_1.length < 8796093022208 then ((some (x3_1 ++ [a0.extract (x4_1:Int).toNat (x5_1:Int).toNat]:List ByteArray)).bind fun y104=>(if 0 ≤ x5_1 then (if x5_1 < (a0.size:Int) then (if (bt a0 x5_1) = 13 then (if (wrap64 (x5_1 + 1)) < (a0.size:Int) then (if 0 ≤ (wrap64 (x5_1 + 1)) then (if (bt a0 (wrap64 (x5_1 + 1))) = 10 then (lexer_zzLines.l0 kj2 a0 y104 (wrap64 ((wrap64 (x5_1 + 1)) + 1)) (wrap64 ((wrap64 (x5_1 + 1)) + 1))) else (lexer_zzLines.l0 kj2 a0 y104 (wrap64 (x5_1 + 1)) (wrap64 (x5_1 + 1)))) else (none)) else (lexer_zzLines.l0 kj2 a0 y104 (wrap64 (x5_1 + 1)) (wrap64 (x5_1 + 1)))) else (lexer_zzLines.l0 kj2 a0 y104 (wrap64 (x5_1 + 1)) (wrap64 (x5_1 + 1)))) else (none)) else (none))) else (none)) else (none)) else (none)) else (none)) = some r:=by rw [if_neg (show ¬ (false = true) by decide)] at H;exact H
       clear H
       have H:=H1
       clear H1
       by_cases c9:0 ≤ x4_1
       ·rw [if_pos c9] at H
        have c9b0:=eq_true c9
        have c9b1:decide (0 ≤ x4_1) = true:=decide_eq_true c9
        clear c9
        by_cases c10:x4_1 ≤ x5_1
        ·rw [if_pos c10] at H
         have c10b0:=eq_true c10
         have c10b1:decide (x4_1 ≤ x5_1) = true:=decide_eq_true c10
         clear c10
         by_cases c11:x5_1 ≤ (a0.size:Int)
         ·rw [if_pos c11] at H
          have c11b0:=eq_true c11
          have c11b1:decide (x5_1 ≤ (a0.size:Int)) = true:=decide_eq_true c11
          clear c11
          by_cases c12:x3_1.length < 8796093022208
          ·rw [if_pos c12] at H
           have LMc12:=Aside0.mk c12
           clear c12
           obtain ⟨y104,hy104⟩:∃ y_:List ByteArray,y_ = (x3_1 ++ [a0.extract (x4_1:Int).toNat (x5_1:Int).toNat]):=⟨_,rfl⟩
           replace H:(if 0 ≤ x5_1 then (if x5_1 < (a0.size:Int) then (if (bt a0 x5_1) = 13 then (if (wrap64 (x5_1 + 1)) < (a0.size:Int) then (if 0 ≤ (wrap64 (x5_1 + 1)) then (if (bt a0 (wrap64 (x5_1 + 1))) = 10 then (lexer_zzLines.l0 kj2 a0 y104 (wrap64 ((wrap64 (x5_1 + 1)) + 1)) (wrap64 ((wrap64 (x5_1 + 1)) + 1))) else (lexer_zzLines.l0 kj2 a0 y104 (wrap64 (x5_1 + 1)) (wrap64 (x5_1 + 1)))) else (none)) else (lexer_zzLines.l0 kj2 a0 y104 (wrap64 (x5_1 + 1)) (wrap64 (x5_1 + 1)))) else (lexer_zzLines.l0 kj2 a0 y104 (wrap64 (x5_1 + 1)) (wrap64 (x5_1 + 1)))) else (none)) else (none)) = some r:=by first | (rw [hy104];with_reducible exact H) | (have H2_:=(Option.bind_some _ _).symm.trans H;rw [hy104];with_reducible exact H2_) | (have H2_:=(Option.bind_some _ _).symm.trans H;with_reducible exact H2_) | with_reducible exact H | (rw [hy104];exact H) | exact H
           have Ny104:=Aside0.mk hy104
           clear hy104
           by_cases c13:0 ≤ x5_1
           ·rw [if_pos c13] at H
            have c13b0:decide (0 ≤ x5_1) = true:=decide_eq_true c13
            clear c13
            by_cases c14:x5_1 < (a0.size:Int)
            ·rw [if_pos c14] at H
             have c14b0:decide (x5_1 < (a0.size:Int)) = true:=decide_eq_true c14
             clear c14
             by_cases c16:(bt a0 x5_1) = 13
             ·rw [if_pos c16] at H
              have c16b0:((bt a0 x5_1) == 13) = true:=beq_iff_eq.mpr c16
              have c16b1:((bt a0 x5_1) != 13) = false:=bne_eq_false_iff_eq.mpr c16
              clear c16
              by_cases c17:(wrap64 (x5_1 + 1)) < (a0.size:Int)
              ·rw [if_pos c17] at H
               have c17b0:decide ((wrap64 (x5_1 + 1)) < (a0.size:Int)) = true:=decide_eq_true c17
               clear c17
               obtain ⟨ji18,hji18⟩:∃ j_:Int,(wrap64 (x5_1 + 1)) = j_:=⟨_,rfl⟩
               replace H:(if 0 ≤ (ji18) then (if (bt a0 (ji18)) = 10 then (lexer_zzLines.l0 kj2 a0 y104 (wrap64 ((ji18) + 1)) (wrap64 ((ji18) + 1))) else (lexer_zzLines.l0 kj2 a0 y104 ji18 ji18)) else (none)) = some r:=by first | (rw [hji18] at H;exact H) | (simp only [hji18] at H ⊢;exact H)
               (try rw [hji18] at c17b0)
               have hji18w:(IntKind.i64.wrap (x5_1 + 1)) = ji18:=(i64_w _).trans hji18
               by_cases c19:0 ≤ (ji18)
               ·rw [if_pos c19] at H
                have c19b0:decide (0 ≤ (ji18)) = true:=decide_eq_true c19
                clear c19
                by_cases c21:(bt a0 (ji18)) = 10
                ·rw [if_pos c21] at H
                 have c21b0:((bt a0 (ji18)) == 10) = true:=beq_iff_eq.mpr c21
                 have c21b1:((bt a0 (ji18)) != 10) = false:=bne_eq_false_iff_eq.mpr c21
                 clear c21
                 have H':=Aside0.mk H
                 clear H
                 go_wp2_with (first | ((with_reducible refine gate_builtin (b:=.append) (xs:=#[.tmp 22,.tmp 27]) rfl ?_);(try (refine gate_guard (by rfl) ?_;dsimp only));at_builtin;refine Kd.R_append Kd.string (w0:=w) w.heap.size rfl (.tmp 22) (.tmp 27) 243 9 (.string ⟨#[]⟩) 16 rfl Tryz.underlying243 info9 rfl (by decide) (by omega) u3 x3_1 (a0.extract (x4_1:Int).toNat (x5_1:Int).toNat) [.string (a0.extract (x4_1:Int).toNat (x5_1:Int).toNat)] (fun _=>True) (fun _=>False) rfl rfl ?aP (fun _ hk=>hk.elim) ?aF ?aO ?aB ?aS ?aL ?_;(case aP=>exact rfl);(case aB=>exact (by repeat (first | (with_reducible first | exact HB.out | apply below_alloc | apply pw_below_drewN | apply below_drew1) | exact HB.out)));(case aF=>exact (fun _ _=>trivial));(case aO=>exact (by (with_reducible repeat (first | apply Kd.R_alloc | apply Kd.R_drewN | apply Kd.R_drew));exact HO_3.out));(case aS=>exact (below_size (by repeat (first | (with_reducible first | exact HB.out | apply below_alloc | apply pw_below_drewN | apply below_drew1) | exact HB.out))));(case aL=>have:=LMc12.out;omega);intro v105 w22 ho hb hg hat;rw [← Ny104.out] at ho;have n0_:=Aside0.mk (hb);have n1_:=Aside0.mk (ho);clear HB;clear HO_3;have HB:=n0_;have HO106:=n1_;clear n0_ n1_;clear ho hb hg hat;have p15:0 ≤ (x5_1:Int):=of_decide_eq_true (by first | (with_reducible assumption) | assumption);have q15:x5_1 < (a0.size:Int):=of_decide_eq_true (by first | (with_reducible assumption) | assumption);have hx15:=bt_at a0 x5_1;replace p15:=eq_true p15;replace q15:=eq_true q15;have p20:0 ≤ ((ji18):Int):=of_decide_eq_true (by first | (with_reducible assumption) | assumption);have q20:(ji18) < (a0.size:Int):=of_decide_eq_true (by first | (with_reducible assumption) | assumption);have hx20:=bt_at a0 (ji18);replace p20:=eq_true p20;replace q20:=eq_true q20))
                 go_roundg kj2
                 case measure=>have:=HK1.out;have:=HJ2.out;omega
                 case rel=>exact ⟨(y104),(wrap64 ((ji18) + 1)),(wrap64 ((ji18) + 1)),(by first | rfl | (simp;done) | (simp only [← hji18] <;> (first | rfl | simp)) | (simp [*];done)),(by first | rfl | (simp;done) | (simp only [← hji18] <;> (first | rfl | simp)) | (simp [*];done)),H',⟨by have:=HK1.out;have:=HJ2.out;omega⟩,⟨by (with_reducible repeat (first | apply Kd.R_alloc | apply Kd.R_drewN | apply Kd.R_drew));exact HO106.out⟩,⟨by repeat (first | (with_reducible first | exact HB.out | apply below_alloc | apply pw_below_drewN | apply below_drew1) | exact HB.out)⟩⟩
                ·rw [if_neg c21] at H
                 have c21b0:((bt a0 (ji18)) == 10) = false:=beq_eq_false_iff_ne.mpr c21
                 have c21b1:((bt a0 (ji18)) != 10) = true:=bne_iff_ne.mpr c21
                 have H':=Aside0.mk H
                 clear H
                 go_wp2_with (first | ((with_reducible refine gate_builtin (b:=.append) (xs:=#[.tmp 22,.tmp 27]) rfl ?_);(try (refine gate_guard (by rfl) ?_;dsimp only));at_builtin;refine Kd.R_append Kd.string (w0:=w) w.heap.size rfl (.tmp 22) (.tmp 27) 243 9 (.string ⟨#[]⟩) 16 rfl Tryz.underlying243 info9 rfl (by decide) (by omega) u3 x3_1 (a0.extract (x4_1:Int).toNat (x5_1:Int).toNat) [.string (a0.extract (x4_1:Int).toNat (x5_1:Int).toNat)] (fun _=>True) (fun _=>False) rfl rfl ?aP (fun _ hk=>hk.elim) ?aF ?aO ?aB ?aS ?aL ?_;(case aP=>exact rfl);(case aB=>exact (by repeat (first | (with_reducible first | exact HB.out | apply below_alloc | apply pw_below_drewN | apply below_drew1) | exact HB.out)));(case aF=>exact (fun _ _=>trivial));(case aO=>exact (by (with_reducible repeat (first | apply Kd.R_alloc | apply Kd.R_drewN | apply Kd.R_drew));exact HO_3.out));(case aS=>exact (below_size (by repeat (first | (with_reducible first | exact HB.out | apply below_alloc | apply pw_below_drewN | apply below_drew1) | exact HB.out))));(case aL=>have:=LMc12.out;omega);intro v105 w23 ho hb hg hat;rw [← Ny104.out] at ho;have n0_:=Aside0.mk (hb);have n1_:=Aside0.mk (ho);clear HB;clear HO_3;have HB:=n0_;have HO106:=n1_;clear n0_ n1_;clear ho hb hg hat;have p15:0 ≤ (x5_1:Int):=of_decide_eq_true (by first | (with_reducible assumption) | assumption);have q15:x5_1 < (a0.size:Int):=of_decide_eq_true (by first | (with_reducible assumption) | assumption);have hx15:=bt_at a0 x5_1;replace p15:=eq_true p15;replace q15:=eq_true q15;have p20:0 ≤ ((ji18):Int):=of_decide_eq_true (by first | (with_reducible assumption) | assumption);have q20:(ji18) < (a0.size:Int):=of_decide_eq_true (by first | (with_reducible assumption) | assumption);have hx20:=bt_at a0 (ji18);replace p20:=eq_true p20;replace q20:=eq_true q20))
                 go_roundg kj2
                 case measure=>have:=HK1.out;have:=HJ2.out;omega
                 case rel=>exact ⟨(y104),(ji18),(ji18),(by first | rfl | (simp;done) | (simp only [← hji18] <;> (first | rfl | simp)) | (simp [*];done)),(by first | rfl | (simp;done) | (simp only [← hji18] <;> (first | rfl | simp)) | (simp [*];done)),H',⟨by have:=HK1.out;have:=HJ2.out;omega⟩,⟨by (with_reducible repeat (first | apply Kd.R_alloc | apply Kd.R_drewN | apply Kd.R_drew));exact HO106.out⟩,⟨by repeat (first | (with_reducible first | exact HB.out | apply below_alloc | apply pw_below_drewN | apply below_drew1) | exact HB.out)⟩⟩
               ·rw [if_neg c19] at H
                exact absurd H (by simp)
              ·rw [if_neg c17] at H
               have c17b0:decide ((wrap64 (x5_1 + 1)) < (a0.size:Int)) = false:=decide_eq_false c17
               clear c17
               have H':=Aside0.mk H
               clear H
               go_wp2_with (first | ((with_reducible refine gate_builtin (b:=.append) (xs:=#[.tmp 22,.tmp 27]) rfl ?_);(try (refine gate_guard (by rfl) ?_;dsimp only));at_builtin;refine Kd.R_append Kd.string (w0:=w) w.heap.size rfl (.tmp 22) (.tmp 27) 243 9 (.string ⟨#[]⟩) 16 rfl Tryz.underlying243 info9 rfl (by decide) (by omega) u3 x3_1 (a0.extract (x4_1:Int).toNat (x5_1:Int).toNat) [.string (a0.extract (x4_1:Int).toNat (x5_1:Int).toNat)] (fun _=>True) (fun _=>False) rfl rfl ?aP (fun _ hk=>hk.elim) ?aF ?aO ?aB ?aS ?aL ?_;(case aP=>exact rfl);(case aB=>exact (by repeat (first | (with_reducible first | exact HB.out | apply below_alloc | apply pw_below_drewN | apply below_drew1) | exact HB.out)));(case aF=>exact (fun _ _=>trivial));(case aO=>exact (by (with_reducible repeat (first | apply Kd.R_alloc | apply Kd.R_drewN | apply Kd.R_drew));exact HO_3.out));(case aS=>exact (below_size (by repeat (first | (with_reducible first | exact HB.out | apply below_alloc | apply pw_below_drewN | apply below_drew1) | exact HB.out))));(case aL=>have:=LMc12.out;omega);intro v105 w24 ho hb hg hat;rw [← Ny104.out] at ho;have n0_:=Aside0.mk (hb);have n1_:=Aside0.mk (ho);clear HB;clear HO_3;have HB:=n0_;have HO106:=n1_;clear n0_ n1_;clear ho hb hg hat;have p15:0 ≤ (x5_1:Int):=of_decide_eq_true (by first | (with_reducible assumption) | assumption);have q15:x5_1 < (a0.size:Int):=of_decide_eq_true (by first | (with_reducible assumption) | assumption);have hx15:=bt_at a0 x5_1;replace p15:=eq_true p15;replace q15:=eq_true q15))
               go_roundg kj2
               case measure=>have:=HK1.out;have:=HJ2.out;omega
               case rel=>exact ⟨(y104),(wrap64 (x5_1 + 1)),(wrap64 (x5_1 + 1)),(by first | rfl | (simp;done) | (simp [*];done)),(by first | rfl | (simp;done) | (simp [*];done)),H',⟨by have:=HK1.out;have:=HJ2.out;omega⟩,⟨by (with_reducible repeat (first | apply Kd.R_alloc | apply Kd.R_drewN | apply Kd.R_drew));exact HO106.out⟩,⟨by repeat (first | (with_reducible first | exact HB.out | apply below_alloc | apply pw_below_drewN | apply below_drew1) | exact HB.out)⟩⟩
             ·rw [if_neg c16] at H
              have c16b0:((bt a0 x5_1) == 13) = false:=beq_eq_false_iff_ne.mpr c16
              have c16b1:((bt a0 x5_1) != 13) = true:=bne_iff_ne.mpr c16
              have H':=Aside0.mk H
              clear H
              go_wp2_with (first | ((with_reducible refine gate_builtin (b:=.append) (xs:=#[.tmp 22,.tmp 27]) rfl ?_);(try (refine gate_guard (by rfl) ?_;dsimp only));at_builtin;refine Kd.R_append Kd.string (w0:=w) w.heap.size rfl (.tmp 22) (.tmp 27) 243 9 (.string ⟨#[]⟩) 16 rfl Tryz.underlying243 info9 rfl (by decide) (by omega) u3 x3_1 (a0.extract (x4_1:Int).toNat (x5_1:Int).toNat) [.string (a0.extract (x4_1:Int).toNat (x5_1:Int).toNat)] (fun _=>True) (fun _=>False) rfl rfl ?aP (fun _ hk=>hk.elim) ?aF ?aO ?aB ?aS ?aL ?_;(case aP=>exact rfl);(case aB=>exact (by repeat (first | (with_reducible first | exact HB.out | apply below_alloc | apply pw_below_drewN | apply below_drew1) | exact HB.out)));(case aF=>exact (fun _ _=>trivial));(case aO=>exact (by (with_reducible repeat (first | apply Kd.R_alloc | apply Kd.R_drewN | apply Kd.R_drew));exact HO_3.out));(case aS=>exact (below_size (by repeat (first | (with_reducible first | exact HB.out | apply below_alloc | apply pw_below_drewN | apply below_drew1) | exact HB.out))));(case aL=>have:=LMc12.out;omega);intro v105 w25 ho hb hg hat;rw [← Ny104.out] at ho;have n0_:=Aside0.mk (hb);have n1_:=Aside0.mk (ho);clear HB;clear HO_3;have HB:=n0_;have HO106:=n1_;clear n0_ n1_;clear ho hb hg hat;have p15:0 ≤ (x5_1:Int):=of_decide_eq_true (by first | (with_reducible assumption) | assumption);have q15:x5_1 < (a0.size:Int):=of_decide_eq_true (by first | (with_reducible assumption) | assumption);have hx15:=bt_at a0 x5_1;replace p15:=eq_true p15;replace q15:=eq_true q15))
              go_roundg kj2
              case measure=>have:=HK1.out;have:=HJ2.out;omega
              case rel=>exact ⟨(y104),(wrap64 (x5_1 + 1)),(wrap64 (x5_1 + 1)),(by first | rfl | (simp;done) | (simp [*];done)),(by first | rfl | (simp;done) | (simp [*];done)),H',⟨by have:=HK1.out;have:=HJ2.out;omega⟩,⟨by (with_reducible repeat (first | apply Kd.R_alloc | apply Kd.R_drewN | apply Kd.R_drew));exact HO106.out⟩,⟨by repeat (first | (with_reducible first | exact HB.out | apply below_alloc | apply pw_below_drewN | apply below_drew1) | exact HB.out)⟩⟩
            ·rw [if_neg c14] at H
             exact absurd H (by simp)
           ·rw [if_neg c13] at H
            exact absurd H (by simp)
          ·rw [if_neg c12] at H
           exact absurd H (by simp)
         ·rw [if_neg c11] at H
          exact absurd H (by simp)
        ·rw [if_neg c10] at H
         exact absurd H (by simp)
       ·rw [if_neg c9] at H
        exact absurd H (by simp)
   ·rw [if_neg c2] at H
    have c2b0:decide (x5_1 < (a0.size:Int)) = false:=decide_eq_false c2
    clear c2
    by_cases c26:0 ≤ x4_1
    ·rw [if_pos c26] at H
     have c26b0:=eq_true c26
     have c26b1:decide (0 ≤ x4_1) = true:=decide_eq_true c26
     clear c26
     by_cases c27:x4_1 ≤ (a0.size:Int)
     ·rw [if_pos c27] at H
      have c27b0:=eq_true c27
      have c27b1:decide (x4_1 ≤ (a0.size:Int)) = true:=decide_eq_true c27
      clear c27
      by_cases c28:x3_1.length < 8796093022208
      ·rw [if_pos c28] at H
       have LMc28:=Aside0.mk c28
       clear c28
       obtain ⟨y101,hy101⟩:∃ y_:List ByteArray,y_ = (x3_1 ++ [a0.extract (x4_1:Int).toNat a0.size]):=⟨_,rfl⟩
       replace H:(some y101) = some r:=by first | (rw [hy101];with_reducible exact H) | (have H2_:=(Option.bind_some _ _).symm.trans H;rw [hy101];with_reducible exact H2_) | (have H2_:=(Option.bind_some _ _).symm.trans H;with_reducible exact H2_) | with_reducible exact H | (rw [hy101];exact H) | exact H
       have Ny101:=Aside0.mk hy101
       clear hy101
       obtain rfl:=Option.some.inj H
       go_wp2_with (first | ((with_reducible refine gate_builtin (b:=.append) (xs:=#[.tmp 51,.tmp 55]) rfl ?_);(try (refine gate_guard (by rfl) ?_;dsimp only));at_builtin;refine Kd.R_append Kd.string (w0:=w) w.heap.size rfl (.tmp 51) (.tmp 55) 243 9 (.string ⟨#[]⟩) 16 rfl Tryz.underlying243 info9 rfl (by decide) (by omega) u3 x3_1 (a0.extract (x4_1:Int).toNat a0.size) [.string (a0.extract (x4_1:Int).toNat a0.size)] (fun _=>True) (fun _=>False) rfl rfl ?aP (fun _ hk=>hk.elim) ?aF ?aO ?aB ?aS ?aL ?_;(case aP=>exact rfl);(case aB=>exact (by repeat (first | (with_reducible first | exact HB.out | apply below_alloc | apply pw_below_drewN | apply below_drew1) | exact HB.out)));(case aF=>exact (fun _ _=>trivial));(case aO=>exact (by (with_reducible repeat (first | apply Kd.R_alloc | apply Kd.R_drewN | apply Kd.R_drew));exact HO_3.out));(case aS=>exact (below_size (by repeat (first | (with_reducible first | exact HB.out | apply below_alloc | apply pw_below_drewN | apply below_drew1) | exact HB.out))));(case aL=>have:=LMc28.out;omega);intro v102 w29 ho hb hg hat;rw [← Ny101.out] at ho;have n0_:=Aside0.mk (hb);have n1_:=Aside0.mk (ho);clear HB;clear HO_3;have HB:=n0_;have HO103:=n1_;clear n0_ n1_;clear ho hb hg hat))
       go_ret
       exact ⟨_,by first | rfl | (simp [errW_none,errW_some] <;> rfl) | (simp [*,errW_none,errW_some] <;> rfl),by (with_reducible repeat (first | apply Kd.R_alloc | apply Kd.R_drewN | apply Kd.R_drew));exact HO103.out,by repeat (first | (with_reducible first | exact HB.out | apply below_alloc | apply pw_below_drewN | apply below_drew1) | exact HB.out)⟩
      ·rw [if_neg c28] at H
       exact absurd H (by simp)
     ·rw [if_neg c27] at H
      exact absurd H (by simp)
    ·rw [if_neg c26] at H
     exact absurd H (by simp)
def lexer_lineIsBlank.f (a0:ByteArray):Option (Bool):=(lexer_leadingWhitespaceLen.f a0).bind fun t107=>(some (t107 == (a0.size:Int)))
set_option maxHeartbeats 8000000 in
set_option maxRecDepth 100000 in
theorem lexer_lineIsBlank.calls (a0:ByteArray) (r:Bool) (w:World) (h:lexer_lineIsBlank.f a0 = some r) :
  Calls Tryz.prog 174 #[.string a0] w fun e w'=>e = .returned (.bool r) ∧ Below w.heap.size w w':=by
 have HB:=Aside0.mk (Below.refl w.heap.size w)
 have H:((lexer_leadingWhitespaceLen.f a0).bind fun t107=>(some (t107 == (a0.size:Int)))) = some r:=h
 clear h
 replace H:=Option.bind_eq_some_iff.mp H
 obtain ⟨t107,A20,H⟩:=H
 replace H:(some (t107 == (a0.size:Int))) = some r:=H
 have A2:=Aside0.mk A20
 clear A20
 obtain rfl:=Option.some.inj H
 go_enter Tryz.func174,Tryz.ntmps174
 go_wp2_with (first | ((with_reducible refine gate_callee (f:=173) rfl ?_);refine goesL_ (some 4) rfl rfl Tryz.func173 (by kernel_rfl) rfl #[.string a0] rfl (by (try simp only [List.map_toArray,List.map_cons,List.map_nil]);first | done | rfl | (simp only [List.length_drop,List.length_take];rfl)) ?_;(with_reducible refine (lexer_leadingWhitespaceLen.calls a0 t107 _ A2.out).mono ?_);rintro e w3 ⟨rfl,hb⟩;refine ⟨_,rfl,?_⟩;have n0_:=Aside0.mk (below_step (by repeat (first | (with_reducible first | exact HB.out | apply below_alloc | apply pw_below_drewN | apply below_drew1) | exact HB.out)) hb);clear HB;have HB:=n0_;clear n0_;(try clear hb);(try clear hb2);(try clear hk);(try clear hi)))
 go_ret
 exact ⟨by first | rfl | (simp [errW_none,errW_some] <;> rfl) | (simp [*,errW_none,errW_some] <;> rfl),by repeat (first | (with_reducible first | exact HB.out | apply below_alloc | apply pw_below_drewN | apply below_drew1) | exact HB.out)⟩
end Go.Proofs.YtbobbognjmofdaaGreatDoor.PBsv
end
end
