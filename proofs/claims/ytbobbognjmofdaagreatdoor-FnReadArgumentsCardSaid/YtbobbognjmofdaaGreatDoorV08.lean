import Derived.Test.YtbobbognjmofdaaGreatDoorV06
import Derived.Test.YtbobbognjmofdaaGreatDoorV07
import Derived.Lib.Join
import Derived.Test.YtbobbognjmofdaaGreatDoorV04
import Derived.Lib.DecodeN
section
section
namespace Go.Proofs.YtbobbognjmofdaaGreatDoor.Bv
open Go.RowKit Go.Proofs.YtbobbognjmofdaaGreatDoorW.PrintWords Go.Proofs.YtbobbognjmofdaaGreatDoorW.PrintLast Go.Proofs.YtbobbognjmofdaaGreatDoorW.PrintMore
open Go.Proofs.YtbobbognjmofdaaGreatDoor.PFnTokens
set_option linter.unusedVariables false
set_option linter.unusedSimpArgs false
def wht (c:UInt8):Bool:=c == 32 || c == 9
def lead (l:List UInt8):Nat:=(l.takeWhile wht).length
theorem lead_le (l:List UInt8):lead l ≤ l.length:=by
 unfold lead
 exact (List.takeWhile_sublist _).length_le
theorem lead_drop (l:List UInt8) (k:Nat) (h:∀ j c,j < k → l[j]? = some c → wht c = true) (hk:k ≤ l.length):lead l = k + lead (l.drop k):=by
 induction k generalizing l with
 | zero=>simp
 | succ k ih=>
  cases l with
  | nil=>simp at hk
  | cons a r=>
   have ha:wht a = true:=h 0 a (by omega) rfl
   have:=ih r (fun j c hj hc=>h (j + 1) c (by omega) (by simpa using hc)) (by simpa using hk)
   have e:lead (a :: r) = lead r + 1:=by simp [lead,List.takeWhile_cons,ha]
   rw [e,this]
   simp
   omega
theorem w64 {x:Int} (h:-4611686018427387904 ≤ x) (h':x ≤ 4611686018427387904):wrap64 x = x:=by unfold wrap64;omega
theorem w64s (i:Nat) (h:i ≤ 1000000):Aside0 (wrap64 ((i:Int) + 1) = ((i + 1:Nat):Int)):=⟨by rw [w64 (by omega) (by omega)];omega⟩
abbrev by' (s:ByteArray):List UInt8:=s.data.toList
def mk (l:List UInt8):ByteArray:=⟨l.toArray⟩
theorem by_mk (l:List UInt8):by' (mk l) = l:=by simp [mk]
theorem mk_by (s:ByteArray):mk (by' s) = s:=by cases s;simp [mk]
theorem mk_size (l:List UInt8):(mk l).size = l.length:=by simp [mk,ByteArray.size]
theorem by_length (s:ByteArray):(by' s).length = s.size:=by unfold by';rw [Array.length_toList];rfl
theorem ba_ext {a b:ByteArray} (h:by' a = by' b):a = b:=ByteArray.ext (Array.toList_inj.1 h)
theorem bt_by {s:ByteArray} {i:Nat} (h:i < s.size):∃ c:UInt8,(by' s)[i]? = some c ∧ bt s (i:Int) = (c.toNat:Int):=by
 refine ⟨s[i],?_,?_⟩
 ·rw [List.getElem?_eq_getElem (by rw [by_length];exact h)]
  rfl
 ·unfold bt
  rw [Int.toNat_natCast,dif_pos h]
theorem num_is {c d:UInt8} {x:Int} (h:x = (c.toNat:Int)):x = (d.toNat:Int) ↔ c = d:=by
 constructor
 ·intro hx
  apply UInt8.toNat_inj.1
  omega
 ·rintro rfl
  exact h
theorem num10 {c:UInt8} {x:Int} (h:x = (c.toNat:Int)):x = 10 ↔ c = 10:=num_is (d:=10) h
theorem num13 {c:UInt8} {x:Int} (h:x = (c.toNat:Int)):x = 13 ↔ c = 13:=num_is (d:=13) h
theorem num32 {c:UInt8} {x:Int} (h:x = (c.toNat:Int)):x = 32 ↔ c = 32:=num_is (d:=32) h
theorem num9 {c:UInt8} {x:Int} (h:x = (c.toNat:Int)):x = 9 ↔ c = 9:=num_is (d:=9) h
theorem take_at {l:List UInt8} {i:Nat} {c:UInt8} (h:l[i]? = some c):l.take (i + 1) = l.take i ++ [c]:=by
 obtain ⟨hl,rfl⟩:=List.getElem?_eq_some_iff.1 h
 exact List.take_succ_eq_append_getElem hl
theorem drop_at {l:List UInt8} {i:Nat} {c:UInt8} (h:l[i]? = some c):l.drop i = c :: l.drop (i + 1):=by
 obtain ⟨hl,rfl⟩:=List.getElem?_eq_some_iff.1 h
 exact List.drop_eq_getElem_cons hl
theorem extract_mk (s:ByteArray) (a b:Nat):s.extract a b = mk (((by' s).take b).drop a):=by
 apply ba_ext
 rw [by_mk]
 unfold by'
 rw [ByteArray.data_extract,Array.toList_extract,List.extract_eq_take_drop,List.drop_take]
def sp (cr:Bool) (cur:List UInt8):List UInt8 → List (List UInt8)
 | []=>[cur]
 | c :: r=>if c = 10 then (if cr then sp false cur r else cur :: sp false [] r) else if c = 13 then cur :: sp true [] r else sp false (cur ++ [c]) r
theorem sp_true {cur:List UInt8} {l:List UInt8} (h:l[0]? ≠ some 10):sp true cur l = sp false cur l:=by
 cases l with
 | nil=>rfl
 | cons c r=>
  have hc:c ≠ 10:=fun e=>h (by rw [e];rfl)
  simp [sp,hc]
theorem drop_head (l:List UInt8) (i:Nat):(l.drop i)[0]? = l[i]?:=by rw [List.getElem?_drop];rfl
theorem drop_cons {l:List UInt8} {a i:Nat} {c:UInt8} (h:l[i]? = some c) (ha:a ≤ i):(l.take (i + 1)).drop a = (l.take i).drop a ++ [c]:=by
 rw [take_at h,List.drop_append_of_le_length]
 have:=(List.getElem?_eq_some_iff.1 h).1
 rw [List.length_take];omega
theorem spec_Lines_loop (s:ByteArray) (hs:s.size ≤ 100000):∀ (n a i k:Nat) (acc:List ByteArray),s.size - i < n → 2 * n ≤ k → a ≤ i → i ≤ s.size → acc.length ≤ i →
  spec_Lines.l0 k s acc a i = some (acc ++ (sp false (((by' s).take i).drop a) ((by' s).drop i)).map mk):=by
 intro n
 induction n with
 | zero=>intro a i k acc h;omega
 | succ n ih=>
  intro a i k acc hn hk ha hi hacc
  obtain ⟨k,rfl⟩:∃ m,k = m + 2:=⟨k - 2,by omega⟩
  have W1:=w64s i (by omega)
  have W2:=w64s (i + 1) (by omega)
  by_cases hlt:i < s.size
  ·obtain ⟨c,hc,hb⟩:=bt_by hlt
   have HB:=Aside0.mk hb
   clear hb
   have hno:¬ (c = 10 ∨ c = 13) → spec_Lines.j1 (k + 1) s acc a i true = some (acc ++ (sp false (((by' s).take i).drop a) ((by' s).drop i)).map mk):=by
    intro h
    have h10:c ≠ 10:=fun e=>h (.inl e)
    have h13:c ≠ 13:=fun e=>h (.inr e)
    simp only [spec_Lines.j1,W1.out]
    rw [if_pos trivial,ih a (i + 1) k acc (by omega) (by omega) (by omega) (by omega) (by omega),drop_at hc,drop_cons hc ha]
    simp [sp,h10,h13]
   have hyes:(c = 10 ∨ c = 13) → spec_Lines.j1 (k + 1) s acc a i false = some (acc ++ (sp false (((by' s).take i).drop a) ((by' s).drop i)).map mk):=by
    intro h
    simp only [spec_Lines.j1,W1.out,W2.out,Int.toNat_natCast]
    rw [if_neg (by simp),if_pos (by omega),if_pos (by omega),if_pos (by omega),if_pos (by omega)]
    simp only [Option.bind_some]
    rw [if_pos (by omega),if_pos (by omega),extract_mk]
    have hstep:sp true [] ((by' s).drop (i + 1)) = sp false [] ((by' s).drop (i + 1)) → spec_Lines.l0 k s (acc ++ [mk (((by' s).take i).drop a)]) ((i + 1:Nat):Int) ((i + 1:Nat):Int) = some (acc ++ (sp false (((by' s).take i).drop a) ((by' s).drop i)).map mk):=by
     intro e
     rw [ih (i + 1) (i + 1) k _ (by omega) (by omega) (by omega) (by omega) (by simp;omega),drop_at hc]
     have e0:((by' s).take (i + 1)).drop (i + 1) = []:=List.drop_of_length_le (by rw [List.length_take];omega)
     rw [e0]
     rcases h with h | h
     ·simp [sp,h]
     ·simp [sp,h,e]
    by_cases h13:bt s (i:Int) = 13
    ·have hc13:=(num13 HB.out).1 h13
     rw [if_pos h13]
     by_cases hn1:i + 1 < s.size
     ·obtain ⟨d,hd,hbd⟩:=bt_by hn1
      have HD:=Aside0.mk hbd
      clear hbd
      rw [if_pos (by omega),if_pos (by omega)]
      by_cases h10:bt s ((i + 1:Nat):Int) = 10
      ·have hd10:=(num10 HD.out).1 h10
       rw [if_pos h10,ih (i + 2) (i + 2) k _ (by omega) (by omega) (by omega) (by omega) (by simp;omega),drop_at hc,drop_at hd]
       have e0:((by' s).take (i + 2)).drop (i + 2) = []:=List.drop_of_length_le (by rw [List.length_take];omega)
       rw [e0]
       simp [sp,hc13,hd10]
      ·have hd10:d ≠ 10:=fun e=>h10 ((num10 HD.out).2 e)
       rw [if_neg h10]
       exact hstep (sp_true (by rw [drop_head,hd];intro e;injection e with e;exact hd10 e))
     ·rw [if_neg (by omega)]
      exact hstep (by rw [List.drop_of_length_le (by rw [by_length];omega)];rfl)
    ·rw [if_neg h13]
     have hc10:c = 10:=by
      rcases h with h | h
      ·exact h
      ·exact absurd ((num13 HB.out).2 h) h13
     rw [ih (i + 1) (i + 1) k _ (by omega) (by omega) (by omega) (by omega) (by simp;omega),drop_at hc]
     have e0:((by' s).take (i + 1)).drop (i + 1) = []:=List.drop_of_length_le (by rw [List.length_take];omega)
     rw [e0]
     simp [sp,hc10]
   have hj:∀ b:Bool,(b = true ↔ ¬ (c = 10 ∨ c = 13)) → spec_Lines.j1 (k + 1) s acc a i b = some (acc ++ (sp false (((by' s).take i).drop a) ((by' s).drop i)).map mk):=by
    intro b hb
    cases b with
    | true=>exact hno (hb.1 rfl)
    | false=>exact hyes (Classical.not_not.1 fun h=>by simpa using hb.2 h)
   simp only [spec_Lines.l0]
   rw [if_pos (by omega),if_pos (by omega)]
   by_cases h1:bt s (i:Int) = 10
   ·rw [if_pos h1]
    exact hj false (by simp [(num10 HB.out).1 h1])
   ·rw [if_neg h1]
    have hc1:c ≠ 10:=fun e=>h1 ((num10 HB.out).2 e)
    refine hj _ ?_
    rw [bne_iff_ne]
    constructor
    ·intro h hh
     rcases hh with hh | hh
     ·first | exact hc1 hh | exact h ((num10 HB.out).2 hh)
     ·first | exact hc1 hh | exact h ((num13 HB.out).2 hh)
    ·intro h hh
     exact h (by first | exact .inl ((num10 HB.out).1 hh) | exact .inr ((num13 HB.out).1 hh))
  ·have hi':i = s.size:=by omega
   simp only [spec_Lines.l0,Int.toNat_natCast]
   rw [if_neg (by omega),if_pos (by omega),if_pos (by omega),if_pos (by omega),extract_mk]
   rw [List.drop_of_length_le (l:=by' s) (by rw [by_length];omega),← hi']
   simp [sp]
theorem spec_Lines_tells (s:ByteArray) (hs:s.size ≤ 100000) (k:Nat) (hk:2 * s.size + 2 ≤ k):spec_Lines.f k s = some ((sp false [] (by' s)).map mk):=by
 have:=spec_Lines_loop s hs (s.size + 1) 0 0 k [] (by omega) (by omega) (by omega) (by omega) (by simp)
 simpa [spec_Lines.f] using this
def Ok (ls:List (List UInt8)):Prop:=ls.length ≤ 100001 ∧ ∀ x ∈ ls,x.length ≤ 100000
theorem rd_mk {ls:List (List UInt8)} {i:Nat} (h:i < ls.length):rdOf ByteArray.empty (ls.map mk) (i:Int) = mk ls[i]:=by
 unfold rdOf
 rw [Int.toNat_natCast,List.getD_eq_getElem?_getD,List.getElem?_map,List.getElem?_eq_getElem h]
 rfl
theorem rd_mk0 {x:List UInt8} {r:List (List UInt8)}:rdOf ByteArray.empty ((x :: r).map mk) 0 = mk x:=rd_mk (ls:=x :: r) (i:=0) (by simp)
theorem leading_loop (s:ByteArray) (hs:s.size ≤ 100000):∀ (n i k:Nat),s.size - i < n → n ≤ k → i ≤ s.size → (∀ j c,j < i → (by' s)[j]? = some c → wht c = true) →
  spec_leading.l0 k s i = some ((lead (by' s):Nat):Int):=by
 intro n
 induction n with
 | zero=>intro i k h;omega
 | succ n ih=>
  intro i k hn hk hi hw
  obtain ⟨k,rfl⟩:∃ m,k = m + 1:=⟨k - 1,by omega⟩
  have W1:=w64s i (by omega)
  simp only [spec_leading.l0,W1.out]
  by_cases hlt:i < s.size
  ·obtain ⟨c,hc,hb⟩:=bt_by hlt
   have HB:=Aside0.mk hb
   clear hb
   rw [if_pos (by omega),if_pos (by omega)]
   have hgo:wht c = true → spec_leading.l0 k s ((i + 1:Nat):Int) = some ((lead (by' s):Nat):Int):=fun hw'=>ih (i + 1) k (by omega) (by omega) (by omega) (fun j d hj hd=>by
    by_cases e:j = i
    ·subst e;rw [hc] at hd;injection hd with hd;rw [← hd];exact hw'
    ·exact hw j d (by omega) hd)
   by_cases h1:bt s (i:Int) = 32
   ·rw [if_pos h1]
    exact hgo (by rw [(num32 HB.out).1 h1];rfl)
   ·rw [if_neg h1]
    by_cases h2:bt s (i:Int) = 9
    ·rw [if_pos h2]
     exact hgo (by rw [(num9 HB.out).1 h2];rfl)
    ·rw [if_neg h2]
     have hc32:c ≠ 32:=fun e=>h1 ((num32 HB.out).2 e)
     have hc9:c ≠ 9:=fun e=>h2 ((num9 HB.out).2 e)
     have hwf:wht c = false:=by simp [wht,hc32,hc9]
     rw [lead_drop (by' s) i hw (by rw [by_length];omega),drop_at hc]
     simp [lead,List.takeWhile_cons,hwf]
  ·rw [if_neg (by omega),lead_drop (by' s) i hw (by rw [by_length];omega),List.drop_of_length_le (by rw [by_length];omega)]
   simp [lead]
theorem leading_tells (x:List UInt8) (hx:x.length ≤ 100000) (k:Nat) (hk:100001 ≤ k):spec_leading.f k (mk x) = some ((lead x:Nat):Int):=by
 have:=leading_loop (mk x) (by rw [mk_size];omega) ((mk x).size + 1) 0 k (by omega) (by rw [mk_size];omega) (by omega) (fun j c hj=>by omega)
 rw [by_mk] at this
 simpa [spec_leading.f] using this
def blank (x:List UInt8):Bool:=lead x == x.length
def cs (acc:Int):List (List UInt8) → Int
 | []=>mx acc 0
 | x :: r=>cs (if lead x < x.length ∧ (acc < 0 ∨ (lead x:Int) < acc) then (lead x:Int) else acc) r
def ci (acc:Int):List (List UInt8) → Int
 | []=>acc
 | x :: r=>if lead x < x.length ∧ (acc = -1 ∨ (lead x:Int) < acc) then (if lead x = 0 then 0 else ci (lead x:Int) r) else ci acc r
theorem cs_nonneg:∀ (ls:List (List UInt8)) (acc:Int),0 ≤ cs acc ls:=by
 intro ls
 induction ls with
 | nil=>intro acc;unfold cs mx;split <;> omega
 | cons x r ih=>intro acc;exact ih _
theorem common_loop (ls:List (List UInt8)) (ok:Ok ls):∀ (n i k:Nat) (acc:Int),ls.length - i < n → n + 100001 ≤ k → i ≤ ls.length →
  spec_common.l0 k (ls.map mk) acc i = some (cs acc (ls.drop i)):=by
 obtain ⟨hl,hx⟩:=ok
 intro n
 induction n with
 | zero=>intro i k acc h;omega
 | succ n ih=>
  intro i k acc hn hk hi
  obtain ⟨k,rfl⟩:∃ m,k = m + 1:=⟨k - 1,by omega⟩
  have W1:=w64s i (by omega)
  simp only [spec_common.l0,W1.out,List.length_map]
  by_cases hlt:i < ls.length
  ·rw [if_pos (by omega),if_pos (by omega),rd_mk hlt]
   have hxi:=hx _ (List.getElem_mem hlt)
   rw [leading_tells _ hxi k (by omega),List.drop_eq_getElem_cons hlt]
   simp only [Option.bind_some,mk_size]
   have h1:=fun acc=>ih (i + 1) k acc (by omega) (by omega) (by omega)
   unfold cs
   by_cases a:lead ls[i] < ls[i].length
   ·rw [if_pos (by omega)]
    by_cases b:acc < 0
    ·rw [if_pos b,h1,if_pos ⟨a,.inl b⟩]
    ·rw [if_neg b]
     by_cases c:(lead ls[i]:Int) < acc
     ·rw [if_pos c,h1,if_pos ⟨a,.inr c⟩]
     ·rw [if_neg c,h1,if_neg (fun h=>by rcases h.2 with h | h <;> contradiction)]
   ·rw [if_neg (by omega),h1,if_neg (fun h=>a h.1)]
  ·rw [if_neg (by omega),List.drop_of_length_le (by omega)]
   rfl
theorem common_tells (x:List UInt8) (r:List (List UInt8)) (ok:Ok (x :: r)) (k:Nat) (hk:300000 ≤ k):spec_common.f k ((x :: r).map mk) = some (cs (-1) r):=by
 have hl:=ok.1
 have:=common_loop (x :: r) ok ((x :: r).length + 1) 1 k (-1) (by omega) (by omega) (by simp)
 simpa [spec_common.f] using this
def rtrim (ls:List (List UInt8)):List (List UInt8):=(ls.reverse.dropWhile blank).reverse
theorem rtrim_snoc_yes {ls:List (List UInt8)} {x:List UInt8} (h:blank x = true):rtrim (ls ++ [x]) = rtrim ls:=by simp [rtrim,List.dropWhile_cons,h]
theorem rtrim_snoc_no {ls:List (List UInt8)} {x:List UInt8} (h:blank x = false):rtrim (ls ++ [x]) = ls ++ [x]:=by simp [rtrim,List.dropWhile_cons,h]
def jn (ls:List (List UInt8)):List UInt8:=Lib.join ls [10]
theorem jn_cons (x:List UInt8) (r:List (List UInt8)):jn (x :: r) = x ++ r.flatMap (fun y=>10 :: y):=by
 unfold jn
 rw [Lib.join_cons]
 congr 1
theorem jn_snoc {ls:List (List UInt8)} (h:ls ≠ []) (x:List UInt8):jn (ls ++ [x]) = jn ls ++ [10] ++ x:=by
 cases ls with
 | nil=>exact absurd rfl h
 | cons a r=>rw [List.cons_append,jn_cons,jn_cons];simp
theorem Ok.tail {x:List UInt8} {ls:List (List UInt8)} (ok:Ok (x :: ls)):Ok ls:=⟨by have:=ok.1;simp at this;omega,fun y hy=>ok.2 y (List.mem_cons_of_mem _ hy)⟩
theorem Ok.init {x:List UInt8} {ls:List (List UInt8)} (ok:Ok (ls ++ [x])):Ok ls:=⟨by have:=ok.1;simp at this;omega,fun y hy=>ok.2 y (List.mem_append_left _ hy)⟩
theorem spec_l3 (ls:List (List UInt8)) (ok:Ok ls):∀ (n i k:Nat) (x6:ByteArray),ls.length - i < n → n ≤ k → i ≤ ls.length → by' x6 = jn (ls.take i) → x6.size ≤ 100001 * i →
  spec_BlockValue.l3 k (ls.map mk) x6 i = some (mk (jn ls)):=by
 obtain ⟨hl,hx⟩:=ok
 intro n
 induction n with
 | zero=>intro i k x6 h;omega
 | succ n ih=>
  intro i k x6 hn hk hi h6 hz
  obtain ⟨k,rfl⟩:∃ m,k = m + 1:=⟨k - 1,by omega⟩
  have W1:=w64s i (by omega)
  simp only [spec_BlockValue.l3,W1.out,List.length_map]
  by_cases hlt:i < ls.length
  ·have hxi:=hx _ (List.getElem_mem hlt)
   have htk:ls.take (i + 1) = ls.take i ++ [ls[i]]:=List.take_succ_eq_append_getElem hlt
   rw [if_pos (by omega),rd_mk hlt]
   by_cases h0:0 < i
   ·have e1:(x6 ++ (⟨#[10]⟩:ByteArray)).size = x6.size + 1:=by rw [ByteArray.size_append];rfl
    rw [if_pos (by omega),if_pos (by omega),if_pos (by omega),if_pos (by rw [e1,mk_size];omega)]
    refine ih (i + 1) k _ (by omega) (by omega) (by omega) ?_ (by rw [ByteArray.size_append,e1,mk_size];omega)
    have hne:ls.take i ≠ []:=by
     intro e
     rw [List.take_eq_nil_iff] at e
     rcases e with e | e
     ·omega
     ·subst e;simp at hlt
    rw [htk,jn_snoc hne,← h6]
    simp [by',ByteArray.data_append,mk]
   ·have h0':i = 0:=by omega
    subst h0'
    rw [if_neg (by simp),if_pos (by simp),if_pos (by rw [mk_size];omega)]
    refine ih (0 + 1) k _ (by omega) (by omega) (by omega) ?_ (by rw [ByteArray.size_append,mk_size];omega)
    rw [htk]
    have e6:by' x6 = []:=h6
    have e7:jn (ls.take 0 ++ [ls[0]]) = ls[0]:=by simp [jn_cons]
    rw [e7]
    have e8:by' (x6 ++ mk ls[0]) = by' x6 ++ by' (mk ls[0]):=by simp [by',ByteArray.data_append]
    rw [e8,e6,by_mk]
    rfl
  ·rw [if_neg (by omega)]
   have hi':i = ls.length:=by omega
   rw [hi',List.take_length] at h6
   rw [← h6,mk_by]
theorem spec_j4 (ls:List (List UInt8)) (ok:Ok ls) (k:Nat) (hk:100010 ≤ k):spec_BlockValue.j4 k (ls.map mk) = some (mk (jn ls)):=by
 obtain ⟨k,rfl⟩:∃ m,k = m + 1:=⟨k - 1,by omega⟩
 have:=ok.1
 simp only [spec_BlockValue.j4]
 exact spec_l3 ls ok (ls.length + 1) 0 k _ (by omega) (by omega) (by omega) rfl (by simp;rfl)
theorem last_mk {ls:List (List UInt8)} {x:List UInt8} (hl:(ls ++ [x]).length ≤ 100001):Aside0 (wrap64 ((((ls ++ [x]).map mk).length:Int) - 1) = (ls.length:Int)):=⟨by
 have e:((ls ++ [x]).map mk).length = ls.length + 1:=by simp
 rw [e]
 simp only [List.length_append,List.length_cons,List.length_nil] at hl
 rw [w64 (by omega) (by omega)];omega⟩
theorem rd_last {ls:List (List UInt8)} {x:List UInt8}:rdOf ByteArray.empty ((ls ++ [x]).map mk) (ls.length:Int) = mk x:=by
 rw [rd_mk (by simp)]
 simp
theorem take_last {ls:List (List UInt8)} {x:List UInt8}:((ls ++ [x]).map mk).take ls.length = ls.map mk:=by
 rw [← List.map_take]
 simp
theorem snoc_or (ls:List (List UInt8)):ls = [] ∨ ∃ (r:List (List UInt8)) (x:List UInt8),ls = r ++ [x]:=by
 rcases List.eq_nil_or_concat ls with h | ⟨r,x,h⟩
 ·exact .inl h
 ·exact .inr ⟨r,x,by simpa using h⟩
theorem spec_l2:∀ (n:Nat) (ls:List (List UInt8)) (k:Nat),Ok ls → ls.length < n → n + 100010 ≤ k → spec_BlockValue.l2 k (ls.map mk) = some (mk (jn (rtrim ls))):=by
 intro n
 induction n with
 | zero=>intro ls k _ h;omega
 | succ n ih=>
  intro ls k ok hn hk
  obtain ⟨k,rfl⟩:∃ m,k = m + 1:=⟨k - 1,by omega⟩
  rcases snoc_or ls with rfl | ⟨r,x,rfl⟩
  ·simp only [spec_BlockValue.l2]
   rw [if_neg (by simp),spec_j4 [] ok k (by omega)]
   rfl
  ·have hl:=ok.1
   have hx:=ok.2 x (by simp)
   have W:=last_mk (ls:=r) (x:=x) hl
   have hlen:((r ++ [x]).map mk).length = r.length + 1:=by simp
   simp only [spec_BlockValue.l2,W.out,rd_last,Int.toNat_natCast,take_last,mk_size]
   rw [if_pos (by omega),if_pos (by omega),if_pos (by omega),leading_tells x hx k (by omega)]
   simp only [Option.bind_some]
   by_cases hb:lead x = x.length
   ·rw [if_pos (by omega),if_pos (by omega),ih r k ok.init (by simp at hn;omega) (by omega),rtrim_snoc_yes (by simp [blank,hb])]
   ·rw [if_neg (by omega),spec_j4 _ ok k (by omega),rtrim_snoc_no (by simp [blank,hb])]
theorem spec_l1:∀ (n:Nat) (ls:List (List UInt8)) (k:Nat),Ok ls → ls.length < n → n + 300000 ≤ k → spec_BlockValue.l1 k (ls.map mk) = some (mk (jn (rtrim (ls.dropWhile blank)))):=by
 intro n
 induction n with
 | zero=>intro ls k _ h;omega
 | succ n ih=>
  intro ls k ok hn hk
  obtain ⟨k,rfl⟩:∃ m,k = m + 1:=⟨k - 1,by omega⟩
  have hj2:∀ ls,Ok ls → spec_BlockValue.j2 k (ls.map mk) = some (mk (jn (rtrim ls))):=by
   intro ls ok
   obtain ⟨k,rfl⟩:∃ m,k = m + 1:=⟨k - 1,by omega⟩
   have:=ok.1
   simp only [spec_BlockValue.j2]
   exact spec_l2 (ls.length + 1) ls k ok (by omega) (by omega)
  cases ls with
  | nil=>
   simp only [spec_BlockValue.l1]
   rw [if_neg (by simp),hj2 [] ok]
   rfl
  | cons x r=>
   have hx:=ok.2 x (by simp)
   simp only [spec_BlockValue.l1,rd_mk0,mk_size]
   have hpos:((((x :: r).map mk).length:Nat):Int) > 0:=by simp only [List.map_cons,List.length_cons];omega
   rw [if_pos hpos,if_pos hpos,leading_tells x hx k (by omega)]
   simp only [Option.bind_some]
   by_cases hb:lead x = x.length
   ·rw [if_pos (by omega),if_pos (by omega)]
    have e:((x :: r).map mk).drop (Int.toNat 1) = r.map mk:=rfl
    rw [e,ih r k ok.tail (by simp at hn;omega) (by omega)]
    simp [List.dropWhile_cons,blank,hb]
   ·rw [if_neg (by omega),hj2 _ ok]
    simp [List.dropWhile_cons,blank,hb]
theorem drop_min (x:List UInt8) (n:Nat):x.drop (min n x.length) = x.drop n:=by
 rcases Nat.le_total n x.length with h | h
 ·rw [Nat.min_eq_left h]
 ·rw [Nat.min_eq_right h,List.drop_of_length_le (Nat.le_refl _),List.drop_of_length_le h]
def strip (n:Nat):List (List UInt8) → List (List UInt8)
 | []=>[]
 | x :: r=>x :: r.map (·.drop n)
theorem set_step (r:List (List UInt8)) (f:List UInt8 → List UInt8) (i:Nat) (hlt:i < r.length):((r.take i).map f ++ r.drop i).set i (f r[i]) = (r.take (i + 1)).map f ++ r.drop (i + 1):=by
 have hm:(List.map f (List.take i r)).length = i:=by rw [List.length_map,List.length_take];omega
 rw [List.set_append_right _ _ (by omega),hm,Nat.sub_self,List.drop_eq_getElem_cons hlt,List.take_succ_eq_append_getElem hlt]
 simp only [List.set_cons_zero,List.map_append,List.map_cons,List.map_nil,List.append_assoc,List.cons_append,List.nil_append]
theorem spec_l0 (x:List UInt8) (r:List (List UInt8)) (ok:Ok (x :: r)) (c:Nat):∀ (n i k:Nat),r.length - i < n → n + 500000 ≤ k → i ≤ r.length →
  spec_BlockValue.l0 k ((x :: ((r.take i).map (·.drop c) ++ r.drop i)).map mk) c ((i + 1:Nat):Int) = some (mk (jn (rtrim ((strip c (x :: r)).dropWhile blank)))):=by
 intro n
 induction n with
 | zero=>intro i k h;omega
 | succ n ih=>
  intro i k hn hk hi
  obtain ⟨k,rfl⟩:∃ m,k = m + 1:=⟨k - 1,by omega⟩
  have hl:=ok.1
  simp only [List.length_cons] at hl
  have W1:=w64s (i + 1) (by omega)
  have hlen:((x :: ((r.take i).map (·.drop c) ++ r.drop i)).map mk).length = r.length + 1:=by simp;omega
  simp only [spec_BlockValue.l0,W1.out,hlen]
  by_cases hlt:i < r.length
  ·have hd:r.drop i = r[i] :: r.drop (i + 1):=List.drop_eq_getElem_cons hlt
   have hrd:rdOf ByteArray.empty ((x :: ((r.take i).map (·.drop c) ++ r.drop i)).map mk) ((i + 1:Nat):Int) = mk r[i]:=by
    rw [rd_mk (by simp;omega)]
    congr 1
    simp only [List.getElem_cons_succ]
    rw [List.getElem_append_right (by simp;omega)]
    simp [Nat.min_eq_left (Nat.le_of_lt hlt)]
   simp only [hrd,mk_size]
   have hmn:mn (c:Int) (r[i].length:Int) = ((min c r[i].length:Nat):Int):=by unfold mn;split <;> omega
   rw [hmn]
   rw [if_pos (by omega),if_pos (by omega),if_pos (by omega),if_pos (by omega)]
   have h1:=ih (i + 1) k (by omega) (by omega) (by omega)
   have hset:((x :: ((r.take i).map (·.drop c) ++ r.drop i)).map mk).set (((i + 1:Nat):Int)).toNat ((mk r[i]).extract (((min c r[i].length:Nat):Int)).toNat r[i].length) = (x :: ((r.take (i + 1)).map (·.drop c) ++ r.drop (i + 1))).map mk:=by
    rw [Int.toNat_natCast,Int.toNat_natCast,extract_mk,by_mk,List.take_of_length_le (Nat.le_refl _),drop_min,← List.map_set]
    congr 1
    rw [List.set_cons_succ]
    congr 1
    exact set_step r (·.drop c) i hlt
   rw [hset]
   exact h1
  ·rw [if_neg (by omega)]
   have hi':i = r.length:=by omega
   subst hi'
   rw [List.take_length,List.drop_length,List.append_nil]
   refine spec_l1 (r.length + 2) (strip c (x :: r)) k ⟨by simp [strip];omega,fun y hy=>?_⟩ (by simp [strip]) (by omega)
   simp only [strip,List.mem_cons,List.mem_map] at hy
   rcases hy with rfl | ⟨z,hz,rfl⟩
   ·exact ok.2 _ (by simp)
   ·have:=ok.2 z (by simp [hz])
    rw [List.length_drop];omega
def bvS (l:List UInt8):List UInt8:=
 match sp false [] l with
 | []=>[]
 | x :: r=>jn (rtrim ((strip (cs (-1) r).toNat (x :: r)).dropWhile blank))
theorem sp_ne (cr:Bool) (cur l:List UInt8):sp cr cur l ≠ []:=by
 induction l generalizing cr cur with
 | nil=>simp [sp]
 | cons c r ih=>
  unfold sp
  split
  ·split
   ·exact ih _ _
   ·simp
  ·split
   ·simp
   ·exact ih _ _
theorem sp_total (l:List UInt8):∀ (cr:Bool) (cur:List UInt8),(sp cr cur l).length + (sp cr cur l).flatten.length ≤ cur.length + l.length + 1:=by
 induction l with
 | nil=>intro cr cur;simp [sp];omega
 | cons c r ih=>
  intro cr cur
  unfold sp
  split
  ·split
   ·have:=ih false cur;simp only [List.length_cons];omega
   ·have:=ih false [];simp only [List.length_cons,List.flatten_cons,List.length_append,List.length_nil] at *;omega
  ·split
   ·have:=ih true [];simp only [List.length_cons,List.flatten_cons,List.length_append,List.length_nil] at *;omega
   ·have:=ih false (cur ++ [c]);simp only [List.length_cons,List.length_append,List.length_nil] at *;omega
theorem mem_flatten_le {ls:List (List UInt8)} {x:List UInt8} (h:x ∈ ls):x.length ≤ ls.flatten.length:=by
 induction ls with
 | nil=>cases h
 | cons a r ih=>
  rw [List.flatten_cons,List.length_append]
  rcases List.mem_cons.1 h with rfl | h
  ·omega
  ·have:=ih h;omega
theorem sp_ok {l:List UInt8} (h:l.length ≤ 100000):Ok (sp false [] l):=by
 have:=sp_total l false []
 simp only [List.length_nil] at this
 refine ⟨by omega,fun x hx=>?_⟩
 have h1:=mem_flatten_le hx
 have h2:1 ≤ (sp false [] l).length:=List.length_pos_iff.2 (sp_ne _ _ _)
 omega
theorem spec_tells (s:ByteArray) (hs:s.size ≤ 100000) (k:Nat) (hk:800000 ≤ k):spec_BlockValue.f k s = some (mk (bvS (by' s))):=by
 unfold spec_BlockValue.f bvS
 rw [spec_Lines_tells s hs k (by omega)]
 simp only [Option.bind_some]
 have ok:=sp_ok (l:=by' s) (by rw [by_length];exact hs)
 cases e:sp false [] (by' s) with
 | nil=>exact absurd e (sp_ne _ _ _)
 | cons x r=>
  rw [e] at ok
  rw [common_tells x r ok k (by omega)]
  simp only [Option.bind_some]
  have hn:=cs_nonneg r (-1)
  have hl:=ok.1
  simp only [List.length_cons] at hl
  have:=spec_l0 x r ok (cs (-1) r).toNat (r.length + 1) 0 k (by omega) (by omega) (by omega)
  rw [Int.toNat_of_nonneg hn] at this
  simpa using this
def cut (c:Nat) (x:List UInt8):List UInt8:=if x.length < c then x else x.drop c
theorem cut_length (c:Nat) (x:List UInt8):(cut c x).length ≤ x.length:=by
 unfold cut
 split
 ·omega
 ·rw [List.length_drop];omega
theorem Ok.cut {ls:List (List UInt8)} (ok:Ok ls) (c:Nat):Ok (ls.map (cut c)):=⟨by rw [List.length_map];exact ok.1,fun x hx=>by
 obtain ⟨y,hy,rfl⟩:=List.mem_map.1 hx
 exact Nat.le_trans (cut_length c y) (ok.2 y hy)⟩
def cuts (c:Int) (ls:List (List UInt8)):List (List UInt8):=if c > 0 then ls.map (cut c.toNat) else ls
def bvI (l:List UInt8):List UInt8:=
 match sp false [] l with
 | []=>[]
 | x :: r=>jn (rtrim ((cuts (ci (-1) r) (x :: r)).dropWhile blank))
def plainL:List (List UInt8) → Bool
 | []=>true
 | x :: r=>!(decide (0 < cs (-1) r) && decide (lead x < x.length)) && r.all (fun y=>!(decide (lead y = y.length) && decide (0 < y.length) && decide ((y.length:Int) < cs (-1) r)))
theorem cs_ci:∀ (r:List (List UInt8)) (acc:Int),-1 ≤ acc → cs acc r = mx (ci acc r) 0:=by
 have h0:∀ (r:List (List UInt8)),cs 0 r = 0:=by
  intro r
  induction r with
  | nil=>rfl
  | cons x r ih=>rw [cs,if_neg (by omega)];exact ih
 intro r
 induction r with
 | nil=>intro acc h;rfl
 | cons x r ih=>
  intro acc h
  rw [cs,ci]
  by_cases c:lead x < x.length ∧ (acc = -1 ∨ (lead x:Int) < acc)
  ·rw [if_pos (by omega),if_pos c]
   by_cases z:lead x = 0
   ·rw [if_pos z,z];exact h0 r
   ·rw [if_neg z];exact ih _ (by omega)
  ·rw [if_neg (by omega),if_neg c];exact ih _ h
theorem ci_le:∀ (r:List (List UInt8)) (acc:Int),(0 ≤ acc → ci acc r ≤ acc) ∧ ∀ y ∈ r,lead y < y.length → ci acc r ≤ (lead y:Int):=by
 intro r
 induction r with
 | nil=>intro acc;exact ⟨fun h=>Int.le_refl _,fun y hy=>by cases hy⟩
 | cons x r ih=>
  intro acc
  rw [ci]
  by_cases c:lead x < x.length ∧ (acc = -1 ∨ (lead x:Int) < acc)
  ·rw [if_pos c]
   by_cases z:lead x = 0
   ·rw [if_pos z]
    exact ⟨fun h=>h,fun y hy _=>by omega⟩
   ·rw [if_neg z]
    have h1:=ih (lead x:Int)
    refine ⟨fun h=>by have:=h1.1 (by omega);omega,fun y hy hl=>?_⟩
    rcases List.mem_cons.1 hy with rfl | hy
    ·exact h1.1 (by omega)
    ·exact h1.2 y hy hl
  ·rw [if_neg c]
   have h1:=ih acc
   refine ⟨h1.1,fun y hy hl=>?_⟩
   rcases List.mem_cons.1 hy with rfl | hy
   ·by_cases ha:0 ≤ acc
    ·have:=h1.1 ha;omega
    ·by_cases hb:acc = -1
     ·exact absurd ⟨hl,.inl hb⟩ c
     ·have h3:∀ (q:List (List UInt8)) (a:Int),a < -1 → ci a q < -1:=by
       intro q
       induction q with
       | nil=>intro a h;exact h
       | cons z q ih2=>intro a h;rw [ci,if_neg (by omega)];exact ih2 a h
      have:=h3 r acc (by omega)
      omega
   ·exact h1.2 y hy hl
theorem blank_iff (x:List UInt8):blank x = true ↔ lead x = x.length:=by unfold blank;exact beq_iff_eq
theorem lead_all {x:List UInt8} (h:lead x = x.length):∀ c ∈ x,wht c = true:=by
 intro c hc
 have:x.takeWhile wht = x:=(List.takeWhile_prefix wht).eq_of_length h
 rw [← this] at hc
 exact List.all_eq_true.1 (List.all_takeWhile) c hc
theorem all_lead {x:List UInt8} (h:∀ c ∈ x,wht c = true):lead x = x.length:=by
 unfold lead
 induction x with
 | nil=>rfl
 | cons a x ih=>
  rw [List.takeWhile_cons_of_pos (h a (by simp)),List.length_cons,ih (fun c hc=>h c (List.mem_cons_of_mem _ hc)),List.length_cons]
theorem blank_drop {x:List UInt8} (h:blank x = true) (n:Nat):blank (x.drop n) = true:=
 (blank_iff _).2 (all_lead fun c hc=>lead_all ((blank_iff _).1 h) c (List.mem_of_mem_drop hc))
theorem bv_same (l:List UInt8) (h:plainL (sp false [] l) = true):bvI l = bvS l:=by
 unfold bvI bvS
 cases e:sp false [] l with
 | nil=>rfl
 | cons x r=>
  rw [e] at h
  simp only [plainL,Bool.and_eq_true,Bool.not_eq_true',Bool.and_eq_false_iff,decide_eq_false_iff_not,List.all_eq_true] at h
  obtain ⟨h1,h2⟩:=h
  have hcs:=cs_ci r (-1) (by omega)
  have hmin:=(ci_le r (-1)).2
  obtain ⟨c,hc⟩:∃ c,c = ci (-1) r:=⟨_,rfl⟩
  show jn (rtrim ((cuts (ci (-1) r) (x :: r)).dropWhile blank)) = jn (rtrim ((strip (cs (-1) r).toNat (x :: r)).dropWhile blank))
  rw [← hc] at hcs hmin
  rw [← hc]
  rw [hcs] at h1 h2
  rw [hcs]
  show jn (rtrim ((cuts c (x :: r)).dropWhile blank)) = jn (rtrim ((strip (mx c 0).toNat (x :: r)).dropWhile blank))
  by_cases hp:c > 0
  ·have hm:mx c 0 = c:=by unfold mx;rw [if_neg (by omega)]
   rw [hm] at h1 h2 ⊢
   have hb:blank x = true:=(blank_iff x).2 (by have:=lead_le x;rcases h1 with h1 | h1 <;> omega)
   have hb2:blank (cut c.toNat x) = true:=by
    unfold cut
    split
    ·exact hb
    ·exact blank_drop hb _
   unfold cuts
   rw [if_pos hp]
   simp only [strip,List.map_cons,List.dropWhile_cons,hb,hb2,if_true]
   have hr:r.map (cut c.toNat) = r.map (·.drop c.toNat):=by
    refine List.map_congr_left fun y hy=>?_
    unfold cut
    split
    ·rename_i hlt
     have hl:lead y = y.length:=by
      have:=lead_le y
      by_cases hx:lead y < y.length
      ·have:=hmin y hy hx;omega
      ·omega
     have h3:=h2 y hy
     have hz:y.length = 0:=by
      rcases h3 with h3 | h3
      ·rcases h3 with h3 | h3
       ·exact absurd hl h3
       ·omega
      ·omega
     rw [List.length_eq_zero_iff.1 hz,List.drop_nil]
    ·rfl
   rw [hr]
  ·have hm:mx c 0 = 0:=by unfold mx;split <;> omega
   rw [hm]
   unfold cuts
   rw [if_neg hp]
   simp [strip]
theorem plain_loop (ls:List (List UInt8)) (ok:Ok ls) (c:Int):∀ (n i k:Nat),ls.length - i < n → n + 100001 ≤ k → i ≤ ls.length →
  spec_plainBlock.l0 k (ls.map mk) c i = some ((ls.drop i).all (fun y=>!(decide (lead y = y.length) && decide (0 < y.length) && decide ((y.length:Int) < c)))):=by
 obtain ⟨hl,hx⟩:=ok
 intro n
 induction n with
 | zero=>intro i k h;omega
 | succ n ih=>
  intro i k hn hk hi
  obtain ⟨k,rfl⟩:∃ m,k = m + 1:=⟨k - 1,by omega⟩
  have W1:=w64s i (by omega)
  simp only [spec_plainBlock.l0,W1.out,List.length_map]
  by_cases hlt:i < ls.length
  ·rw [if_pos (by omega),if_pos (by omega),rd_mk hlt,leading_tells _ (hx _ (List.getElem_mem hlt)) k (by omega),List.drop_eq_getElem_cons hlt]
   simp only [Option.bind_some,List.all_cons]
   have h1:=ih (i + 1) k (by omega) (by omega) (by omega)
   rw [h1,mk_size]
   by_cases a1:lead ls[i] = ls[i].length
   ·rw [if_pos (by omega)]
    by_cases a2:0 < ls[i].length
    ·rw [if_pos (by omega)]
     by_cases a3:(ls[i].length:Int) < c
     ·rw [if_pos a3];simp [a1,a2,a3]
     ·rw [if_neg a3];simp [a3]
    ·rw [if_neg (by omega)];simp [a2]
   ·rw [if_neg (by omega)];simp [a1]
  ·rw [if_neg (by omega),List.drop_of_length_le (by omega)]
   rfl
theorem plain_tells (s:ByteArray) (hs:s.size ≤ 100000) (k:Nat) (hk:800000 ≤ k):spec_plainBlock.f k s = some (plainL (sp false [] (by' s))):=by
 unfold spec_plainBlock.f
 rw [spec_Lines_tells s hs k (by omega)]
 simp only [Option.bind_some]
 have ok:=sp_ok (l:=by' s) (by rw [by_length];exact hs)
 cases e:sp false [] (by' s) with
 | nil=>exact absurd e (sp_ne _ _ _)
 | cons x r=>
  rw [e] at ok
  have hl:=ok.1
  obtain ⟨k,rfl⟩:∃ m,k = m + 1:=⟨k - 1,by omega⟩
  have hj:∀ c,spec_plainBlock.j0 (k + 1) ((x :: r).map mk) c false = some (r.all (fun y=>!(decide (lead y = y.length) && decide (0 < y.length) && decide ((y.length:Int) < c)))):=by
   intro c
   rw [spec_plainBlock.j0,if_neg (by simp)]
   exact plain_loop (x :: r) ok c ((x :: r).length + 1) 1 k (by omega) (by omega) (by simp)
  rw [common_tells x r ok _ (by omega)]
  simp only [Option.bind_some]
  by_cases hc:cs (-1) r > 0
  ·rw [if_pos hc,if_pos (by simp only [List.map_cons,List.length_cons];omega),rd_mk0,leading_tells x (ok.2 x (by simp)) _ (by omega)]
   simp only [Option.bind_some,mk_size]
   by_cases hx:lead x < x.length
   ·rw [decide_eq_true (by omega),spec_plainBlock.j0,if_pos rfl]
    simp only [plainL]
    rw [decide_eq_true hc,decide_eq_true hx];rfl
   ·rw [decide_eq_false (by omega),hj]
    simp only [plainL]
    rw [decide_eq_false hx,Bool.and_false];rfl
  ·rw [if_neg hc,hj]
   simp only [plainL]
   rw [decide_eq_false (by omega:¬ 0 < cs (-1) r)];rfl
end Go.Proofs.YtbobbognjmofdaaGreatDoor.Bv
end
section
namespace Go.Proofs.YtbobbognjmofdaaGreatDoor.Lex
open Go.RowKit Go.Proofs.YtbobbognjmofdaaGreatDoorW.PrintWords Go.Proofs.YtbobbognjmofdaaGreatDoorW.PrintLast Go.Proofs.YtbobbognjmofdaaGreatDoorW.PrintMore
open Go.Proofs.YtbobbognjmofdaaGreatDoor.Ptext
set_option linter.unusedVariables false
set_option linter.unusedSimpArgs false
theorem wsm {x:Int} (h:-1000000000 ≤ x) (h':x ≤ 1000000000):wrap64 x = x:=by unfold wrap64;omega
theorem wrap_bt (s:ByteArray) (i:Int):wrap64 (bt s i) = bt s i:=by
 have:=bt_range s i
 exact wsm (by omega) (by omega)
theorem l0_go (s:ByteArray) (hs:s.size ≤ 100000) (k i n j:Nat) (x4 x7:Int) (hn:n ≤ 4) (hi:i + n ≤ s.size) (hj:j < i + n) (h0:0 ≤ x4) (h1:x4 ≤ 1000000) :
  spec_Point.l0 (k + 1) s i x4 n x7 j = if bt s j < 128 ∨ bt s j > 191 then some (0,0) else spec_Point.l0 k s i (x4 * 64 + bt s j - 128) n x7 ((j + 1:Nat):Int):=by
 have hb:=bt_range s j
 simp only [spec_Point.l0,wrap_bt]
 rw [wsm (x:=(i:Int) + n) (by omega) (by omega),if_pos (by omega),if_pos (by omega),if_pos (by omega)]
 by_cases h2:bt s j < 128
 ·rw [if_pos h2,if_pos (.inl h2)]
 ·by_cases h3:bt s j > 191
  ·rw [if_neg h2,if_pos h3,if_pos (.inr h3)]
  ·rw [if_neg h2,if_neg h3,if_neg (by omega),wsm (x:=x4 * 64) (by omega) (by omega),wsm (x:=x4 * 64 + bt s j) (by omega) (by omega),wsm (x:=x4 * 64 + bt s j - 128) (by omega) (by omega),wsm (x:=(j:Int) + 1) (by omega) (by omega)]
   rfl
theorem l0_end (s:ByteArray) (hs:s.size ≤ 100000) (k i n j:Nat) (x4 x7:Int) (hn:n ≤ 4) (hi:i + n ≤ s.size) (hj:j = i + n) :
  spec_Point.l0 (k + 1) s i x4 n x7 j = if x4 < x7 ∨ x4 > 1114111 ∨ 55296 ≤ x4 ∧ x4 < 57344 then some (0,0) else some (x4,(n:Int)):=by
 subst hj
 simp only [spec_Point.l0]
 rw [wsm (x:=(i:Int) + n) (by omega) (by omega),if_neg (by omega)]
 (repeat' split) <;> first | rfl | (exfalso;omega)
def pv (n b0 b1 b2 b3:Int):Int × Int:=
 if b0 < 128 then (b0,1)
 else if 194 ≤ b0 ∧ b0 < 224 ∧ 2 ≤ n ∧ (128 ≤ b1 ∧ b1 ≤ 191) then ((b0 - 192) * 64 + b1 - 128,2)
 else if 224 ≤ b0 ∧ b0 < 240 ∧ 3 ≤ n ∧ (128 ≤ b1 ∧ b1 ≤ 191) ∧ (128 ≤ b2 ∧ b2 ≤ 191) ∧ ¬ (((b0 - 224) * 64 + b1 - 128) * 64 + b2 - 128 < 2048 ∨ 55296 ≤ ((b0 - 224) * 64 + b1 - 128) * 64 + b2 - 128 ∧ ((b0 - 224) * 64 + b1 - 128) * 64 + b2 - 128 < 57344) then (((b0 - 224) * 64 + b1 - 128) * 64 + b2 - 128,3)
 else if 240 ≤ b0 ∧ b0 < 245 ∧ 4 ≤ n ∧ (128 ≤ b1 ∧ b1 ≤ 191) ∧ (128 ≤ b2 ∧ b2 ≤ 191) ∧ (128 ≤ b3 ∧ b3 ≤ 191) ∧ ¬ ((((b0 - 240) * 64 + b1 - 128) * 64 + b2 - 128) * 64 + b3 - 128 < 65536 ∨ (((b0 - 240) * 64 + b1 - 128) * 64 + b2 - 128) * 64 + b3 - 128 > 1114111) then ((((b0 - 240) * 64 + b1 - 128) * 64 + b2 - 128) * 64 + b3 - 128,4)
 else (0,0)
theorem j2_zero (s:ByteArray) (k i:Nat) (x4 x7:Int):spec_Point.j2 (k + 2) s i x4 0 x7 = some (0,0):=by simp [spec_Point.j2,spec_Point.j3]
theorem j2_go (s:ByteArray) (hs:s.size ≤ 100000) (k i n:Nat) (x4 x7:Int) (hi:i < s.size) (hn0:n ≠ 0) (hn:n ≤ 4) :
  spec_Point.j2 (k + 2) s i x4 n x7 = if i + n > s.size then some (0,0) else spec_Point.l0 k s i x4 n x7 ((i + 1:Nat):Int):=by
 simp only [spec_Point.j2,spec_Point.j3]
 rw [if_neg (by omega),wsm (x:=(i:Int) + n) (by omega) (by omega),wsm (x:=(i:Int) + 1) (by omega) (by omega)]
 by_cases h:i + n > s.size
 ·rw [if_pos (by simp;omega),if_pos h]
 ·rw [if_neg (by simp;omega),if_neg h]
  rfl
set_option maxHeartbeats 1000000 in
theorem point_eq (s:ByteArray) (hs:s.size ≤ 100000) (i:Nat) (hi:i < s.size) :
  spec_Point.f 12 s i = some (pv ((s.size - i:Nat):Int) (bt s i) (bt s ((i + 1:Nat):Int)) (bt s ((i + 2:Nat):Int)) (bt s ((i + 3:Nat):Int))):=by
 have r0:=bt_range s i
 have r1:=bt_range s ((i + 1:Nat):Int)
 have r2:=bt_range s ((i + 2:Nat):Int)
 have r3:=bt_range s ((i + 3:Nat):Int)
 simp only [spec_Point.f,wrap_bt]
 rw [if_pos (by omega),if_pos (by omega)]
 by_cases c0:bt s i < 128
 ·rw [if_pos c0];unfold pv;rw [if_pos c0]
 rw [if_neg c0]
 have hpv:∀ (n:Nat),n = s.size - i → True:=fun _ _=>trivial
 by_cases c1:194 ≤ bt s i ∧ bt s i < 224
 ·rw [if_pos (by omega),decide_eq_true (by omega),spec_Point.j0,if_pos rfl,wsm (by omega) (by omega)]
  have:=j2_go s hs 9 i 2 (bt s i - 192) 128 hi (by omega) (by omega)
  rw [show ((2:Nat):Int) = 2 from rfl] at this
  rw [this]
  unfold pv
  rw [if_neg c0]
  by_cases hn:i + 2 > s.size
  ·rw [if_pos hn,if_neg (by omega),if_neg (by omega),if_neg (by omega)]
  rw [if_neg hn]
  have e1:=l0_go s hs 8 i 2 (i + 1) (bt s i - 192) 128 (by omega) (by omega) (by omega) (by omega) (by omega)
  rw [show ((2:Nat):Int) = 2 from rfl] at e1
  rw [e1]
  by_cases hb1:bt s ((i + 1:Nat):Int) < 128 ∨ bt s ((i + 1:Nat):Int) > 191
  ·rw [if_pos hb1,if_neg (by omega),if_neg (by omega),if_neg (by omega)]
  rw [if_neg hb1]
  have e2:=l0_end s hs 7 i 2 (i + 1 + 1) ((bt s i - 192) * 64 + bt s ((i + 1:Nat):Int) - 128) 128 (by omega) (by omega) (by omega)
  rw [show ((2:Nat):Int) = 2 from rfl] at e2
  rw [e2,if_neg (by omega),if_pos (by omega)]
 by_cases c2:224 ≤ bt s i ∧ bt s i < 240
 ·have e0:spec_Point.j0 12 s i 0 0 (bt s i) 0 false = spec_Point.j2 10 s i (bt s i - 224) 3 2048:=by
   rw [spec_Point.j0,if_neg (by simp),if_pos (by omega),decide_eq_true (by omega),spec_Point.j1,if_pos rfl,wsm (by omega) (by omega)]
  rw [if_pos (by omega),decide_eq_false (by omega),e0]
  have:=j2_go s hs 8 i 3 (bt s i - 224) 2048 hi (by omega) (by omega)
  rw [show ((3:Nat):Int) = 3 from rfl] at this
  unfold pv
  rw [if_neg c0,if_neg (by omega),this]
  by_cases hn:i + 3 > s.size
  ·rw [if_pos hn,if_neg (by omega),if_neg (by omega)]
  rw [if_neg hn]
  have e1:=l0_go s hs 7 i 3 (i + 1) (bt s i - 224) 2048 (by omega) (by omega) (by omega) (by omega) (by omega)
  rw [show ((3:Nat):Int) = 3 from rfl] at e1
  rw [e1]
  by_cases hb1:bt s ((i + 1:Nat):Int) < 128 ∨ bt s ((i + 1:Nat):Int) > 191
  ·rw [if_pos hb1,if_neg (by omega),if_neg (by omega)]
  rw [if_neg hb1]
  have e2:=l0_go s hs 6 i 3 (i + 1 + 1) ((bt s i - 224) * 64 + bt s ((i + 1:Nat):Int) - 128) 2048 (by omega) (by omega) (by omega) (by omega) (by omega)
  rw [show ((3:Nat):Int) = 3 from rfl,show i + 1 + 1 = i + 2 from rfl] at e2
  rw [show i + 1 + 1 = i + 2 from rfl,e2]
  by_cases hb2:bt s ((i + 2:Nat):Int) < 128 ∨ bt s ((i + 2:Nat):Int) > 191
  ·rw [if_pos hb2,if_neg (by omega),if_neg (by omega)]
  rw [if_neg hb2]
  have e3:=l0_end s hs 5 i 3 (i + 2 + 1) (((bt s i - 224) * 64 + bt s ((i + 1:Nat):Int) - 128) * 64 + bt s ((i + 2:Nat):Int) - 128) 2048 (by omega) (by omega) (by omega)
  rw [show ((3:Nat):Int) = 3 from rfl] at e3
  rw [e3]
  by_cases hv:((bt s i - 224) * 64 + bt s ((i + 1:Nat):Int) - 128) * 64 + bt s ((i + 2:Nat):Int) - 128 < 2048 ∨ 55296 ≤ ((bt s i - 224) * 64 + bt s ((i + 1:Nat):Int) - 128) * 64 + bt s ((i + 2:Nat):Int) - 128 ∧ ((bt s i - 224) * 64 + bt s ((i + 1:Nat):Int) - 128) * 64 + bt s ((i + 2:Nat):Int) - 128 < 57344
  ·rw [if_pos (by omega),if_neg (by omega),if_neg (by omega)]
  ·rw [if_neg (by omega),if_pos (by omega)]
 by_cases c3:240 ≤ bt s i ∧ bt s i < 245
 ·have e0:spec_Point.j0 12 s i 0 0 (bt s i) 0 false = spec_Point.j2 10 s i (bt s i - 240) 4 65536:=by
   rw [spec_Point.j0,if_neg (by simp),if_pos (by omega),decide_eq_false (by omega),spec_Point.j1,if_neg (by simp),if_pos (by omega),if_pos (by omega),wsm (by omega) (by omega)]
  rw [if_pos (by omega),decide_eq_false (by omega),e0]
  have:=j2_go s hs 8 i 4 (bt s i - 240) 65536 hi (by omega) (by omega)
  rw [show ((4:Nat):Int) = 4 from rfl] at this
  unfold pv
  rw [if_neg c0,if_neg (by omega),if_neg (by omega),this]
  by_cases hn:i + 4 > s.size
  ·rw [if_pos hn,if_neg (by omega)]
  rw [if_neg hn]
  have e1:=l0_go s hs 7 i 4 (i + 1) (bt s i - 240) 65536 (by omega) (by omega) (by omega) (by omega) (by omega)
  rw [show ((4:Nat):Int) = 4 from rfl] at e1
  rw [e1]
  by_cases hb1:bt s ((i + 1:Nat):Int) < 128 ∨ bt s ((i + 1:Nat):Int) > 191
  ·rw [if_pos hb1,if_neg (by omega)]
  rw [if_neg hb1]
  have e2:=l0_go s hs 6 i 4 (i + 1 + 1) ((bt s i - 240) * 64 + bt s ((i + 1:Nat):Int) - 128) 65536 (by omega) (by omega) (by omega) (by omega) (by omega)
  rw [show ((4:Nat):Int) = 4 from rfl,show i + 1 + 1 = i + 2 from rfl] at e2
  rw [show i + 1 + 1 = i + 2 from rfl,e2]
  by_cases hb2:bt s ((i + 2:Nat):Int) < 128 ∨ bt s ((i + 2:Nat):Int) > 191
  ·rw [if_pos hb2,if_neg (by omega)]
  rw [if_neg hb2]
  have e3:=l0_go s hs 5 i 4 (i + 2 + 1) (((bt s i - 240) * 64 + bt s ((i + 1:Nat):Int) - 128) * 64 + bt s ((i + 2:Nat):Int) - 128) 65536 (by omega) (by omega) (by omega) (by omega) (by omega)
  rw [show ((4:Nat):Int) = 4 from rfl,show i + 2 + 1 = i + 3 from rfl] at e3
  rw [show i + 2 + 1 = i + 3 from rfl,e3]
  by_cases hb3:bt s ((i + 3:Nat):Int) < 128 ∨ bt s ((i + 3:Nat):Int) > 191
  ·rw [if_pos hb3,if_neg (by omega)]
  rw [if_neg hb3]
  have e4:=l0_end s hs 4 i 4 (i + 3 + 1) ((((bt s i - 240) * 64 + bt s ((i + 1:Nat):Int) - 128) * 64 + bt s ((i + 2:Nat):Int) - 128) * 64 + bt s ((i + 3:Nat):Int) - 128) 65536 (by omega) (by omega) (by omega)
  rw [show ((4:Nat):Int) = 4 from rfl] at e4
  rw [e4]
  by_cases hv:(((bt s i - 240) * 64 + bt s ((i + 1:Nat):Int) - 128) * 64 + bt s ((i + 2:Nat):Int) - 128) * 64 + bt s ((i + 3:Nat):Int) - 128 < 65536 ∨ (((bt s i - 240) * 64 + bt s ((i + 1:Nat):Int) - 128) * 64 + bt s ((i + 2:Nat):Int) - 128) * 64 + bt s ((i + 3:Nat):Int) - 128 > 1114111
  ·rw [if_pos (by omega),if_neg (by omega)]
  ·rw [if_neg (by omega),if_pos (by omega)]
 ·have e0:spec_Point.j0 12 s i 0 0 (bt s i) 0 false = some (0,0):=by
   rw [spec_Point.j0,if_neg (by simp)]
   by_cases c4:bt s i ≥ 224
   ·rw [if_pos c4,decide_eq_false (by omega),spec_Point.j1,if_neg (by simp),if_pos (by omega),if_neg (by omega)]
    exact j2_zero s 8 i 0 0
   ·rw [if_neg c4,spec_Point.j1,if_neg (by simp),if_neg (by omega)]
    exact j2_zero s 8 i 0 0
  have e9:pv ((s.size - i:Nat):Int) (bt s i) (bt s ((i + 1:Nat):Int)) (bt s ((i + 2:Nat):Int)) (bt s ((i + 3:Nat):Int)) = (0,0):=by
   unfold pv
   rw [if_neg c0,if_neg (by omega),if_neg (by omega),if_neg (by omega)]
  rw [e9]
  by_cases c5:bt s i ≥ 194
  ·rw [if_pos c5,decide_eq_false (by omega),e0]
  ·rw [if_neg c5,e0]
theorem bt_get (s:ByteArray) (i:Nat):bt s i = ((s.get! i).toNat:Int):=by
 unfold bt
 rw [Int.toNat_natCast]
 by_cases h:i < s.size
 ·rw [dif_pos h]
  show ((s[i]'h).toNat:Int) = _
  simp only [ByteArray.get!]
  rw [getElem!_pos s.data i (by exact h)]
  rfl
 ·rw [dif_neg h]
  simp only [ByteArray.get!]
  rw [getElem!_neg s.data i (by exact h)]
  rfl
set_option maxHeartbeats 1000000 in
theorem pv_decode (n b0 b1 b2 b3:Nat) (h0:b0 < 256) (h1:b1 < 256) (h2:b2 < 256) (h3:b3 < 256) (hn:(pv n b0 b1 b2 b3).2 ≠ 0) :
  pv n b0 b1 b2 b3 = (((Lib.decodeN n b0 b1 b2 b3).1:Int),((Lib.decodeN n b0 b1 b2 b3).2:Int)):=by
 unfold pv at hn ⊢
 split
 ·rename_i c0
  rw [Lib.decodeN,if_pos (by omega)];rfl
 rename_i c0
 rw [if_neg c0] at hn
 split
 ·rename_i c1
  rw [Lib.decodeN,if_neg (by omega),if_pos (by omega),if_pos (by omega)]
  refine Prod.ext ?_ rfl
  show _ = ((b0 % 32 * 64 + b1 % 64:Nat):Int)
  show ((b0:Int) - 192) * 64 + b1 - 128 = _
  omega
 rename_i c1
 rw [if_neg c1] at hn
 split
 ·rename_i c2
  rw [Lib.decodeN,if_neg (by omega),if_neg (by omega),if_pos (by omega),if_pos (by omega)]
  refine Prod.ext ?_ rfl
  show (((b0:Int) - 224) * 64 + b1 - 128) * 64 + b2 - 128 = ((b0 % 16 * 4096 + b1 % 64 * 64 + b2 % 64:Nat):Int)
  omega
 rename_i c2
 rw [if_neg c2] at hn
 split
 ·rename_i c3
  rw [Lib.decodeN,if_neg (by omega),if_neg (by omega),if_neg (by omega),if_pos (by omega),if_pos (by omega)]
  refine Prod.ext ?_ rfl
  show ((((b0:Int) - 240) * 64 + b1 - 128) * 64 + b2 - 128) * 64 + b3 - 128 = ((b0 % 8 * 262144 + b1 % 64 * 4096 + b2 % 64 * 64 + b3 % 64:Nat):Int)
  omega
 ·rename_i c3
  rw [if_neg c3] at hn
  exact absurd rfl hn
theorem pv_range (n b0 b1 b2 b3:Int) (hn:1 ≤ n) (h0:0 ≤ b0):(pv n b0 b1 b2 b3).2 = 0 ∨ 1 ≤ (pv n b0 b1 b2 b3).2 ∧ (pv n b0 b1 b2 b3).2 ≤ 4 ∧ (pv n b0 b1 b2 b3).2 ≤ n:=by
 unfold pv
 (repeat' split) <;> first | exact .inl rfl | (refine .inr ?_;simp only [];omega)
def rn (s:ByteArray) (p:Int):Int × Int:=if (s.size:Int) ≤ p then (-1,65533) else (((Utf8.decode s p.toNat).1:Int),((Utf8.decode s p.toNat).2:Int))
theorem get_lt (s:ByteArray) (i:Nat):(s.get! i).toNat < 256:=(s.get! i).toNat_lt
theorem ptS_eq (s:ByteArray) (hs:s.size ≤ 100000) (p:Int) (h0:0 ≤ p) (hp:p < s.size) :
  ptS s p = pv ((s.size - p.toNat:Nat):Int) ((s.get! p.toNat).toNat:Int) ((s.get! (p.toNat + 1)).toNat:Int) ((s.get! (p.toNat + 2)).toNat:Int) ((s.get! (p.toNat + 3)).toNat:Int):=by
 have h:=point_eq s hs p.toNat (by omega)
 rw [bt_get,bt_get,bt_get,bt_get,show ((p.toNat:Nat):Int) = p by omega] at h
 unfold ptS
 rw [h,Option.getD_some]
theorem pt_tells (s:ByteArray) (hs:s.size ≤ 100000) (p:Int) (h0:0 ≤ p) (hp:p < s.size) :
  spec_Point.f 12 s p = some (ptS s p) ∧ ((ptS s p).2 = 0 ∨ 1 ≤ (ptS s p).2 ∧ (ptS s p).2 ≤ 4 ∧ p + (ptS s p).2 ≤ s.size):=by
 have h:=point_eq s hs p.toNat (by omega)
 have hq:=ptS_eq s hs p h0 hp
 rw [show ((p.toNat:Nat):Int) = p by omega] at h
 refine ⟨?_,?_⟩
 ·unfold ptS;rw [h];rfl
 ·have:=pv_range ((s.size - p.toNat:Nat):Int) ((s.get! p.toNat).toNat:Int) ((s.get! (p.toNat + 1)).toNat:Int) ((s.get! (p.toNat + 2)).toNat:Int) ((s.get! (p.toNat + 3)).toNat:Int) (by omega) (by omega)
  rw [← hq] at this
  omega
theorem rn_pt (s:ByteArray) (hs:s.size ≤ 100000) (p:Int) (h0:0 ≤ p) (hp:p < s.size) (hn:(ptS s p).2 ≠ 0):rn s p = ptS s p:=by
 have hq:=ptS_eq s hs p h0 hp
 rw [hq] at hn ⊢
 unfold rn
 rw [if_neg (by omega),Lib.decode_at]
 exact (pv_decode _ _ _ _ _ (get_lt _ _) (get_lt _ _) (get_lt _ _) (get_lt _ _) hn).symm
theorem rn_small (s:ByteArray) (p:Int) (h0:0 ≤ p) (hp:p < s.size) (hb:bt s p < 128):rn s p = (bt s p,1):=by
 have hg:=bt_get s p.toNat
 rw [show ((p.toNat:Nat):Int) = p by omega] at hg
 unfold rn
 rw [if_neg (by omega),Lib.decode_at,Lib.decodeN,if_pos (by omega),hg];rfl
theorem decodeN_bounds (n b0 b1 b2 b3:Nat) (h0:b0 < 256) (hn:1 ≤ n):(Lib.decodeN n b0 b1 b2 b3).1 ≤ 1114111 ∧ 1 ≤ (Lib.decodeN n b0 b1 b2 b3).2 ∧ (Lib.decodeN n b0 b1 b2 b3).2 ≤ 4 ∧ (Lib.decodeN n b0 b1 b2 b3).2 ≤ n ∧ (128 ≤ b0 → 128 ≤ (Lib.decodeN n b0 b1 b2 b3).1):=by
 unfold Lib.decodeN
 (repeat' split) <;> (simp only [];omega)
theorem rn_bounds (s:ByteArray) (p:Int) (h0:0 ≤ p) (hp:p < s.size):0 ≤ (rn s p).1 ∧ (rn s p).1 ≤ 1114111 ∧ 1 ≤ (rn s p).2 ∧ (rn s p).2 ≤ 4 ∧ p + (rn s p).2 ≤ s.size ∧ (128 ≤ bt s p → 128 ≤ (rn s p).1):=by
 have hg:=bt_get s p.toNat
 rw [show ((p.toNat:Nat):Int) = p by omega] at hg
 have:=decodeN_bounds (s.size - p.toNat) (s.get! p.toNat).toNat (s.get! (p.toNat + 1)).toNat (s.get! (p.toNat + 2)).toNat (s.get! (p.toNat + 3)).toNat (get_lt _ _) (by omega)
 rw [show rn s p = _ from if_neg (by omega),Lib.decode_at]
 obtain ⟨r,hr⟩:∃ r,r = Lib.decodeN (s.size - p.toNat) (s.get! p.toNat).toNat (s.get! (p.toNat + 1)).toNat (s.get! (p.toNat + 2)).toNat (s.get! (p.toNat + 3)).toNat:=⟨_,rfl⟩
 rw [← hr] at this ⊢
 obtain ⟨q1,q2,q3,q4,q5⟩:=this
 refine ⟨?_,?_,?_,?_,?_,?_⟩
 ·show (0:Int) ≤ (r.1:Int);omega
 ·show (r.1:Int) ≤ 1114111;omega
 ·show (1:Int) ≤ (r.2:Int);omega
 ·show (r.2:Int) ≤ 4;omega
 ·show p + (r.2:Int) ≤ s.size;omega
 ·intro hb
  have:=q5 (by omega)
  show (128:Int) ≤ (r.1:Int);omega
theorem rn_eof (s:ByteArray) (p:Int) (hp:(s.size:Int) ≤ p):rn s p = (-1,65533):=by unfold rn;rw [if_pos hp]
end Go.Proofs.YtbobbognjmofdaaGreatDoor.Lex
end
end
