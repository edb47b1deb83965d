import Derived.Test.YtbobbognjmofdaaGreatDoorV08
import Derived.Test.YtbobbognjmofdaaGreatDoorV14
import Derived.Test.YtbobbognjmofdaaGreatDoorV13
import Derived.Test.YtbobbognjmofdaaGreatDoorV12
section
section
namespace Go.Proofs.YtbobbognjmofdaaGreatDoor.Bv
open Go.RowKit Go.Proofs.YtbobbognjmofdaaGreatDoorW.PrintWords Go.Proofs.YtbobbognjmofdaaGreatDoorW.PrintLast Go.Proofs.YtbobbognjmofdaaGreatDoorW.PrintMore
open Go.Proofs.YtbobbognjmofdaaGreatDoor.PBsv
set_option linter.unusedVariables false
set_option linter.unusedSimpArgs false
theorem lexer_zzLines_loop (s:ByteArray) (hs:s.size ≤ 100000):∀ (n a i k:Nat) (acc:List ByteArray),s.size - i < n → 2 * n ≤ k → a ≤ i → i ≤ s.size → acc.length ≤ i →
  lexer_zzLines.l0 k s acc a i = some (acc ++ (sp false (((by' s).take i).drop a) ((by' s).drop i)).map mk):=by
 intro n
 induction n with
 | zero=>intro a i k acc h;omega
 | succ n ih=>
  intro a i k acc hn hk ha hi hacc
  obtain ⟨k,rfl⟩:∃ m,k = m + 2:=⟨k - 2,by omega⟩
  have W1:=w64s i (by omega)
  have W2:=w64s (i + 1) (by omega)
  by_cases hlt:i < s.size
  ·obtain ⟨c,hc,hb⟩:=bt_by hlt
   have HB:=Aside0.mk hb
   clear hb
   have hno:¬ (c = 10 ∨ c = 13) → lexer_zzLines.j1 (k + 1) s acc a i true = some (acc ++ (sp false (((by' s).take i).drop a) ((by' s).drop i)).map mk):=by
    intro h
    have h10:c ≠ 10:=fun e=>h (.inl e)
    have h13:c ≠ 13:=fun e=>h (.inr e)
    simp only [lexer_zzLines.j1,W1.out]
    rw [if_pos trivial,ih a (i + 1) k acc (by omega) (by omega) (by omega) (by omega) (by omega),drop_at hc,drop_cons hc ha]
    simp [sp,h10,h13]
   have hyes:(c = 10 ∨ c = 13) → lexer_zzLines.j1 (k + 1) s acc a i false = some (acc ++ (sp false (((by' s).take i).drop a) ((by' s).drop i)).map mk):=by
    intro h
    simp only [lexer_zzLines.j1,W1.out,W2.out,Int.toNat_natCast]
    rw [if_neg (by simp),if_pos (by omega),if_pos (by omega),if_pos (by omega),if_pos (by omega)]
    simp only [Option.bind_some]
    rw [if_pos (by omega),if_pos (by omega),extract_mk]
    have hstep:sp true [] ((by' s).drop (i + 1)) = sp false [] ((by' s).drop (i + 1)) → lexer_zzLines.l0 k s (acc ++ [mk (((by' s).take i).drop a)]) ((i + 1:Nat):Int) ((i + 1:Nat):Int) = some (acc ++ (sp false (((by' s).take i).drop a) ((by' s).drop i)).map mk):=by
     intro e
     rw [ih (i + 1) (i + 1) k _ (by omega) (by omega) (by omega) (by omega) (by simp;omega),drop_at hc]
     have e0:((by' s).take (i + 1)).drop (i + 1) = []:=List.drop_of_length_le (by rw [List.length_take];omega)
     rw [e0]
     rcases h with h | h
     ·simp [sp,h]
     ·simp [sp,h,e]
    by_cases h13:bt s (i:Int) = 13
    ·have hc13:=(num13 HB.out).1 h13
     rw [if_pos h13]
     by_cases hn1:i + 1 < s.size
     ·obtain ⟨d,hd,hbd⟩:=bt_by hn1
      have HD:=Aside0.mk hbd
      clear hbd
      rw [if_pos (by omega),if_pos (by omega)]
      by_cases h10:bt s ((i + 1:Nat):Int) = 10
      ·have hd10:=(num10 HD.out).1 h10
       rw [if_pos h10,ih (i + 2) (i + 2) k _ (by omega) (by omega) (by omega) (by omega) (by simp;omega),drop_at hc,drop_at hd]
       have e0:((by' s).take (i + 2)).drop (i + 2) = []:=List.drop_of_length_le (by rw [List.length_take];omega)
       rw [e0]
       simp [sp,hc13,hd10]
      ·have hd10:d ≠ 10:=fun e=>h10 ((num10 HD.out).2 e)
       rw [if_neg h10]
       exact hstep (sp_true (by rw [drop_head,hd];intro e;injection e with e;exact hd10 e))
     ·rw [if_neg (by omega)]
      exact hstep (by rw [List.drop_of_length_le (by rw [by_length];omega)];rfl)
    ·rw [if_neg h13]
     have hc10:c = 10:=by
      rcases h with h | h
      ·exact h
      ·exact absurd ((num13 HB.out).2 h) h13
     rw [ih (i + 1) (i + 1) k _ (by omega) (by omega) (by omega) (by omega) (by simp;omega),drop_at hc]
     have e0:((by' s).take (i + 1)).drop (i + 1) = []:=List.drop_of_length_le (by rw [List.length_take];omega)
     rw [e0]
     simp [sp,hc10]
   have hj:∀ b:Bool,(b = true ↔ ¬ (c = 10 ∨ c = 13)) → lexer_zzLines.j1 (k + 1) s acc a i b = some (acc ++ (sp false (((by' s).take i).drop a) ((by' s).drop i)).map mk):=by
    intro b hb
    cases b with
    | true=>exact hno (hb.1 rfl)
    | false=>exact hyes (Classical.not_not.1 fun h=>by simpa using hb.2 h)
   simp only [lexer_zzLines.l0]
   rw [if_pos (by omega),if_pos (by omega)]
   by_cases h1:bt s (i:Int) = 13
   ·rw [if_pos h1]
    exact hj false (by simp [(num13 HB.out).1 h1])
   ·rw [if_neg h1]
    have hc1:c ≠ 13:=fun e=>h1 ((num13 HB.out).2 e)
    refine hj _ ?_
    rw [bne_iff_ne]
    constructor
    ·intro h hh
     rcases hh with hh | hh
     ·first | exact hc1 hh | exact h ((num10 HB.out).2 hh)
     ·first | exact hc1 hh | exact h ((num13 HB.out).2 hh)
    ·intro h hh
     exact h (by first | exact .inl ((num10 HB.out).1 hh) | exact .inr ((num13 HB.out).1 hh))
  ·have hi':i = s.size:=by omega
   simp only [lexer_zzLines.l0,Int.toNat_natCast]
   rw [if_neg (by omega),if_pos (by omega),if_pos (by omega),if_pos (by omega),extract_mk]
   rw [List.drop_of_length_le (l:=by' s) (by rw [by_length];omega),← hi']
   simp [sp]
theorem lexer_zzLines_tells (s:ByteArray) (hs:s.size ≤ 100000) (k:Nat) (hk:2 * s.size + 2 ≤ k):lexer_zzLines.f k s = some ((sp false [] (by' s)).map mk):=by
 have:=lexer_zzLines_loop s hs (s.size + 1) 0 0 k [] (by omega) (by omega) (by omega) (by omega) (by simp)
 simpa [lexer_zzLines.f] using this
theorem lead_given (x:List UInt8) (hx:x.length ≤ 100000):lexer_leadingWhitespaceLen.f (mk x) = some ((lead x:Nat):Int):=by
 unfold lexer_leadingWhitespaceLen.f
 rw [if_pos (by rw [mk_size];omega)]
 have:(mk x).data.toList = x:=by_mk x
 rw [this]
theorem blank_given (x:List UInt8) (hx:x.length ≤ 100000):lexer_lineIsBlank.f (mk x) = some (blank x):=by
 unfold lexer_lineIsBlank.f
 rw [lead_given x hx]
 simp only [Option.bind_some]
 rw [mk_size]
 congr 1
 unfold blank
 rw [Bool.eq_iff_iff,beq_iff_eq,beq_iff_eq]
 omega
theorem flatten_le {ls:List (List UInt8)} (h:∀ x ∈ ls,x.length ≤ 100000):ls.flatten.length ≤ 100000 * ls.length:=by
 induction ls with
 | nil=>simp
 | cons a r ih=>
  rw [List.flatten_cons,List.length_append,List.length_cons]
  have h1:=h a (by simp)
  have h2:=ih (fun x hx=>h x (List.mem_cons_of_mem _ hx))
  omega
theorem jn_length (ls:List (List UInt8)):(jn ls).length ≤ ls.length + ls.flatten.length:=by
 cases ls with
 | nil=>exact Nat.zero_le _
 | cons x r=>
  rw [jn_cons,List.length_append,List.flatten_cons,List.length_append,List.length_cons]
  have:(r.flatMap (fun y=>10 :: y)).length = r.length + r.flatten.length:=by
   induction r with
   | nil=>simp
   | cons a r ih=>simp only [List.flatMap_cons,List.length_append,List.length_cons,List.flatten_cons,ih];omega
  omega
theorem join_given (ls:List (List UInt8)) (ok:Ok ls):strings_Join.f (ls.map mk) (⟨#[10]⟩:ByteArray) = some (mk (jn ls)):=by
 obtain ⟨hl,hx⟩:=ok
 have e:joinBytes (ls.map mk) (⟨#[10]⟩:ByteArray) = jn ls:=by
  unfold joinBytes jn
  congr 1
  rw [List.map_map]
  have:((fun s:ByteArray=>s.data.toList) ∘ mk) = id:=by funext l;exact by_mk l
  rw [this,List.map_id]
 unfold strings_Join.f
 rw [e,if_pos]
 ·rfl
 ·refine ⟨by rw [List.length_map];omega,?_⟩
  have h1:=jn_length ls
  have h2:=flatten_le hx
  omega
theorem impl_l3:∀ (n:Nat) (ls:List (List UInt8)) (k:Nat),Ok ls → ls.length < n → n ≤ k → lexer_blockStringValue.l3 k (ls.map mk) = some (mk (jn (rtrim ls))):=by
 intro n
 induction n with
 | zero=>intro ls k _ h;omega
 | succ n ih=>
  intro ls k ok hn hk
  obtain ⟨k,rfl⟩:∃ m,k = m + 1:=⟨k - 1,by omega⟩
  rcases snoc_or ls with rfl | ⟨r,x,rfl⟩
  ·simp only [lexer_blockStringValue.l3]
   rw [if_neg (by simp),join_given [] ok]
   rfl
  ·have hl:=ok.1
   have hx:=ok.2 x (by simp)
   have W:=last_mk (ls:=r) (x:=x) hl
   have hlen:((r ++ [x]).map mk).length = r.length + 1:=by simp
   simp only [lexer_blockStringValue.l3,W.out,rd_last,Int.toNat_natCast,take_last]
   rw [if_pos (by omega),if_pos (by omega),if_pos (by omega),blank_given x hx]
   simp only [Option.bind_some]
   cases hb:blank x with
   | true=>
    rw [if_pos rfl,if_pos (by omega),ih r k ok.init (by simp at hn;omega) (by omega),rtrim_snoc_yes hb]
   | false=>
    rw [if_neg (by simp),join_given _ ok,rtrim_snoc_no hb]
    rfl
theorem impl_l2:∀ (n:Nat) (ls:List (List UInt8)) (k:Nat),Ok ls → ls.length < n → n + 100010 ≤ k → lexer_blockStringValue.l2 k (ls.map mk) = some (mk (jn (rtrim (ls.dropWhile blank)))):=by
 intro n
 induction n with
 | zero=>intro ls k _ h;omega
 | succ n ih=>
  intro ls k ok hn hk
  obtain ⟨k,rfl⟩:∃ m,k = m + 1:=⟨k - 1,by omega⟩
  have hj6:∀ ls,Ok ls → lexer_blockStringValue.j6 k (ls.map mk) = some (mk (jn (rtrim ls))):=by
   intro ls ok
   obtain ⟨k,rfl⟩:∃ m,k = m + 1:=⟨k - 1,by omega⟩
   have:=ok.1
   simp only [lexer_blockStringValue.j6]
   exact impl_l3 (ls.length + 1) ls k ok (by omega) (by omega)
  cases ls with
  | nil=>
   simp only [lexer_blockStringValue.l2]
   rw [if_neg (by simp),hj6 [] ok]
   rfl
  | cons x r=>
   have hx:=ok.2 x (by simp)
   have hpos:((((x :: r).map mk).length:Nat):Int) > 0:=by simp only [List.map_cons,List.length_cons];omega
   simp only [lexer_blockStringValue.l2,rd_mk0]
   rw [if_pos hpos,if_pos hpos,blank_given x hx]
   simp only [Option.bind_some]
   cases hb:blank x with
   | true=>
    rw [if_pos rfl,if_pos (by omega)]
    have e:((x :: r).map mk).drop (Int.toNat 1) = r.map mk:=rfl
    rw [e,ih r k ok.tail (by simp at hn;omega) (by omega)]
    simp [List.dropWhile_cons,hb]
   | false=>
    rw [if_neg (by simp),hj6 _ ok]
    simp [List.dropWhile_cons,hb]
theorem impl_j4 (ls:List (List UInt8)) (ok:Ok ls) (k:Nat) (hk:300000 ≤ k):lexer_blockStringValue.j4 k (ls.map mk) = some (mk (jn (rtrim (ls.dropWhile blank)))):=by
 obtain ⟨k,rfl⟩:∃ m,k = m + 1:=⟨k - 1,by omega⟩
 have:=ok.1
 simp only [lexer_blockStringValue.j4]
 exact impl_l2 (ls.length + 1) ls k ok (by omega) (by omega)
theorem impl_l1 (ls:List (List UInt8)) (ok:Ok ls) (c:Nat):∀ (n i k:Nat),ls.length - i < n → n + 300000 ≤ k → i ≤ ls.length →
  lexer_blockStringValue.l1 k (((ls.take i).map (cut c) ++ ls.drop i).map mk) c (ls.length:Int) i = some (mk (jn (rtrim ((ls.map (cut c)).dropWhile blank)))):=by
 have hl:=ok.1
 intro n
 induction n with
 | zero=>intro i k h;omega
 | succ n ih=>
  intro i k hn hk hi
  obtain ⟨k,rfl⟩:∃ m,k = m + 1:=⟨k - 1,by omega⟩
  have W1:=w64s i (by omega)
  have hlen:(((ls.take i).map (cut c) ++ ls.drop i).map mk).length = ls.length:=by simp;omega
  simp only [lexer_blockStringValue.l1,W1.out,hlen]
  by_cases hlt:i < ls.length
  ·have hrd:rdOf ByteArray.empty (((ls.take i).map (cut c) ++ ls.drop i).map mk) (i:Int) = mk ls[i]:=by
    rw [rd_mk (by simp;omega)]
    congr 1
    rw [List.getElem_append_right (by simp;omega)]
    simp [Nat.min_eq_left (Nat.le_of_lt hlt)]
   have h1:=ih (i + 1) k (by omega) (by omega) (by omega)
   simp only [hrd,mk_size]
   rw [if_pos (by omega),if_pos (by omega),if_pos (by omega)]
   by_cases hc:(c:Int) > (ls[i].length:Int)
   ·rw [if_pos hc]
    have e:(ls.take i).map (cut c) ++ ls.drop i = (ls.take (i + 1)).map (cut c) ++ ls.drop (i + 1):=by
     rw [List.drop_eq_getElem_cons hlt,List.take_succ_eq_append_getElem hlt]
     have:cut c ls[i] = ls[i]:=by unfold cut;rw [if_pos (by omega)]
     simp only [List.map_append,List.map_cons,List.map_nil,this,List.append_assoc,List.cons_append,List.nil_append]
    rw [e]
    exact h1
   ·rw [if_neg hc,if_pos (by omega),if_pos (by omega)]
    have hset:(((ls.take i).map (cut c) ++ ls.drop i).map mk).set ((i:Int)).toNat ((mk ls[i]).extract ((c:Int)).toNat ls[i].length) = ((ls.take (i + 1)).map (cut c) ++ ls.drop (i + 1)).map mk:=by
     have:cut c ls[i] = ls[i].drop c:=by unfold cut;rw [if_neg (by omega)]
     rw [Int.toNat_natCast,Int.toNat_natCast,extract_mk,by_mk,List.take_of_length_le (Nat.le_refl _),← List.map_set,← this]
     congr 1
     exact set_step ls (cut c) i hlt
    rw [hset]
    exact h1
  ·rw [if_neg (by omega)]
   have hi':i = ls.length:=by omega
   subst hi'
   rw [List.take_length,List.drop_length,List.append_nil]
   exact impl_j4 _ (ok.cut c) k (by omega)
theorem impl_j2 (ls:List (List UInt8)) (ok:Ok ls) (c:Int) (k:Nat) (hk:500000 ≤ k):lexer_blockStringValue.j2 k (ls.map mk) c = some (mk (jn (rtrim ((cuts c ls).dropWhile blank)))):=by
 obtain ⟨k,rfl⟩:∃ m,k = m + 1:=⟨k - 1,by omega⟩
 have hl:=ok.1
 simp only [lexer_blockStringValue.j2,List.length_map]
 unfold cuts
 by_cases h:c > 0
 ·rw [if_pos h,if_pos h]
  have:=impl_l1 ls ok c.toNat (ls.length + 1) 0 k (by omega) (by omega) (by omega)
  rw [Int.toNat_of_nonneg (by omega)] at this
  simpa using this
 ·rw [if_neg h,if_neg h]
  exact impl_j4 ls ok k (by omega)
theorem impl_l0 (ls:List (List UInt8)) (ok:Ok ls):∀ (n i k:Nat) (acc:Int),ls.length - i < n → 2 * n + 500000 ≤ k → i ≤ ls.length →
  lexer_blockStringValue.l0 k (ls.map mk) acc i = some (mk (jn (rtrim ((cuts (ci acc (ls.drop i)) ls).dropWhile blank)))):=by
 obtain ⟨hl,hx⟩:=id ok
 intro n
 induction n with
 | zero=>intro i k acc h;omega
 | succ n ih=>
  intro i k acc hn hk hi
  obtain ⟨k,rfl⟩:∃ m,k = m + 2:=⟨k - 2,by omega⟩
  have W1:=w64s i (by omega)
  simp only [lexer_blockStringValue.l0,lexer_blockStringValue.j1,W1.out,List.length_map]
  by_cases hlt:i < ls.length
  ·rw [if_pos (by omega),if_pos (by omega),rd_mk hlt]
   have hxi:=hx _ (List.getElem_mem hlt)
   have hd:ls.drop i = ls[i] :: ls.drop (i + 1):=List.drop_eq_getElem_cons hlt
   rw [lead_given _ hxi]
   simp only [Option.bind_some,mk_size]
   have h1:=fun acc=>ih (i + 1) k acc (by omega) (by omega) (by omega)
   have hyes:lead ls[i] < ls[i].length → (acc = -1 ∨ (lead ls[i]:Int) < acc) → (if ((lead ls[i]:Nat):Int) = 0 then lexer_blockStringValue.j2 k (ls.map mk) (lead ls[i]:Nat) else lexer_blockStringValue.l0 k (ls.map mk) (lead ls[i]:Nat) ((i + 1:Nat):Int)) = some (mk (jn (rtrim ((cuts (ci acc (ls.drop i)) ls).dropWhile blank)))):=by
    intro a b
    have e:ci acc (ls.drop i) = if lead ls[i] = 0 then 0 else ci (lead ls[i]:Nat) (ls.drop (i + 1)):=by
     rw [hd]
     exact if_pos ⟨a,b⟩
    rw [e]
    by_cases z:lead ls[i] = 0
    ·rw [if_pos (by omega),if_pos z,impl_j2 ls ok _ k (by omega),z]
     rfl
    ·rw [if_neg (by omega),if_neg z,h1]
   have hno:¬ (lead ls[i] < ls[i].length ∧ (acc = -1 ∨ (lead ls[i]:Int) < acc)) → lexer_blockStringValue.l0 k (ls.map mk) acc ((i + 1:Nat):Int) = some (mk (jn (rtrim ((cuts (ci acc (ls.drop i)) ls).dropWhile blank)))):=by
    intro a
    rw [hd]
    unfold ci
    rw [if_neg a,h1]
   by_cases a:lead ls[i] < ls[i].length
   ·rw [if_pos (by omega)]
    by_cases b:acc = -1
    ·rw [if_pos b,if_pos trivial]
     exact hyes a (.inl b)
    ·rw [if_neg b]
     by_cases c:(lead ls[i]:Int) < acc
     ·rw [if_pos (by simpa using c)]
      exact hyes a (.inr c)
     ·rw [if_neg (by simpa using c)]
      exact hno (fun h=>by rcases h.2 with h | h <;> contradiction)
   ·rw [if_neg (by omega),if_neg (by simp)]
    exact hno (fun h=>a h.1)
  ·rw [if_neg (by omega),List.drop_of_length_le (by omega)]
   rw [impl_j2 ls ok _ _ (by omega)]
   rfl
theorem impl_tells (s:ByteArray) (hs:s.size ≤ 100000) (k:Nat) (hk:800000 ≤ k):lexer_blockStringValue.f k s = some (mk (bvI (by' s))):=by
 unfold lexer_blockStringValue.f bvI
 rw [lexer_zzLines_tells s hs k (by omega)]
 simp only [Option.bind_some]
 have ok:=sp_ok (l:=by' s) (by rw [by_length];exact hs)
 cases e:sp false [] (by' s) with
 | nil=>exact absurd e (sp_ne _ _ _)
 | cons x r=>
  rw [e] at ok
  have hl:=ok.1
  have:=impl_l0 (x :: r) ok ((x :: r).length + 1) 1 k (-1) (by omega) (by omega) (by simp)
  have e1:((1:Nat):Int) = 1:=rfl
  rw [e1] at this
  rw [this]
  rfl
end Go.Proofs.YtbobbognjmofdaaGreatDoor.Bv
end
section
namespace Go.Proofs.YtbobbognjmofdaaGreatDoor.Lex
open Go.RowKit Go.Proofs.YtbobbognjmofdaaGreatDoorW.PrintWords Go.Proofs.YtbobbognjmofdaaGreatDoorW.PrintLast Go.Proofs.YtbobbognjmofdaaGreatDoorW.PrintMore
open Go.Proofs.YtbobbognjmofdaaGreatDoor.Ptext
set_option linter.unusedVariables false
set_option linter.unusedSimpArgs false
def bvi (s:ByteArray):ByteArray:=Bv.mk (Bv.bvI (Bv.by' s))
def blkTok (start:Int) (R:Option (Int × ByteArray)):Option (Int × Int × Int × ByteArray):=R.map fun q=>(19,start,q.1,bvi q.2)
theorem extract_step (s:ByteArray) (a p n:Int) (h0:0 ≤ a) (h1:a ≤ p) (h2:0 ≤ n) (h3:p + n ≤ s.size):s.extract a.toNat p.toNat ++ s.extract p.toNat (p + n).toNat = s.extract a.toNat (p + n).toNat:=by
 rw [ByteArray.extract_append_extract,Nat.min_eq_left (by omega),Nat.max_eq_right (by omega)]
set_option maxRecDepth 4000 in
set_option maxHeartbeats 8000000 in
theorem readBlock_any (s:ByteArray) (g b c:Nat) (start:Int) (R:Option (Int × ByteArray)) (w:World) (h:Src w b c s) (hg:w.cell? ⟨g,0,none⟩ = some (.slice (some ⟨b,0,none⟩) s.size c)) (hs:s.size ≤ 2000) (h0:0 ≤ start) (hst:start + 3 ≤ s.size)
  (hR:blk s (s.size + 1) (start + 3) ⟨#[]⟩ false = (R,false)) :
  Calls Tryz.prog 108 #[.pointer (some ⟨g,0,none⟩),.int .i64 start] w fun e w'=>Told e (blkTok start R) ∧ Below w.heap.size w w':=by
 have HS:=Aside0.mk h
 have HR:=Aside0.mk hR
 have hg1:∀ o1 o2,((w.alloc o1).alloc o2).cell? ⟨g,0,none⟩ = some (.slice (some ⟨b,0,none⟩) s.size c):=fun o1 o2=>PFnReadString.old_cell (below_alloc (below_alloc (Below.refl _ _) o1) o2) hg
 have hg0:∀ o1,(w.alloc o1).cell? ⟨g,0,none⟩ = some (.slice (some ⟨b,0,none⟩) s.size c):=fun o1=>PFnReadString.old_cell (below_alloc (Below.refl _ _) o1) hg
 clear h hR hg
 obtain ⟨T,hT⟩:∃ T,T = blkTok start R:=⟨_,rfl⟩
 rw [← hT]
 have HTT:=Aside0.mk hT
 clear hT
 go_enter Tryz.func108,Tryz.ntmps108
 go_wp2_with fail
 obtain ⟨W1,hW1⟩:∃ W1,W1 = (w.alloc (.cells #[.int .i64 0,.int .i64 0,.int .i64 0,.string ⟨#[]⟩] 58)).alloc (.cells #[.slice none 0 0,.int .i64 0,.int .i8 0] 179):=⟨_,rfl⟩
 have hB1:Below w.heap.size w W1:=by rw [hW1];exact below_alloc (below_alloc (Below.refl _ _) _) _
 have hE1:W1.heap[w.heap.size]? = some (.cells #[.int .i64 0,.int .i64 0,.int .i64 0,.string ⟨#[]⟩] 58 (0,0)):=by
  rw [hW1,heap_alloc_old _ _ (by simp)]
  exact heap_alloc_new _ _
 have hI1:Lib.IsBuffer 179 5 (w.heap.size + 1) (w.heap.size + 1) (Lib.byteCells []) W1:=by
  have:=Lib.fresh_isBuffer 179 5 (w.alloc (.cells #[.int .i64 0,.int .i64 0,.int .i64 0,.string ⟨#[]⟩] 58))
  rw [hW1]
  simpa [Lib.byteCells] using this
 have hz1:W1.heap.size = w.heap.size + 2:=by rw [hW1];simp
 have hg2:W1.cell? ⟨g,0,none⟩ = some (.slice (some ⟨b,0,none⟩) s.size c):=by rw [hW1];exact hg1 _ _
 rw [← hW1]
 have HB1:=Aside0.mk hB1
 have HE1:=Aside0.mk hE1
 have HI1:=Aside0.mk hI1
 have HZ1:=Aside0.mk hz1
 have HG1:=Aside0.mk hg2
 have HS1:=Aside0.mk (HS.out.below hB1)
 clear hW1 hB1 hE1 hI1 hz1 hg1 hg2 hg0
 go_loopg [7,8,9] (s.size + 1) (fun kq v7 v8 v9 wr=>∃ (p r:Int),v7 = .int .i64 p ∧ v8 = .int .i64 r ∧ v9 = .int .i64 (start + 3) ∧ Aside0 (start + 3 ≤ p ∧ p ≤ s.size ∧ 0 ≤ r ∧ r ≤ p ∧ (s.size:Int) < p + kq ∧ blk s kq p (s.extract (start + 3).toNat p.toNat) false = (R,false) ∧ Below W1.heap.size W1 wr))
 case atStart=>
  refine ⟨start + 3,start + 3,rfl,rfl,rfl,⟨by omega,by omega,by omega,by omega,by omega,?_,Below.refl _ _⟩⟩
  have:s.extract (start + 3).toNat (start + 3).toNat = ⟨#[]⟩:=by
   apply ByteArray.ext;simp
  rw [this]
  exact HR.out
 case round=>
  obtain ⟨p,r,rfl,rfl,rfl,HA⟩:=hrel
  have hp1:=HA.out.1
  have hp2:=HA.out.2.1
  have hr0:=HA.out.2.2.1
  have hrp:=HA.out.2.2.2.1
  have HX:=Aside0.mk HA.out.2.2.2.2.2.2
  by_cases hge:p ≥ (s.size:Int)
  ·have hgb:decide (p ≥ (s.size:Int)) = true:=decide_eq_true hge
   have hfin:R = none:=by
    have h:=HA.out.2.2.2.2.2.1
    cases gk with
    | zero=>rw [blk] at h;exact (Prod.mk.inj h).1.symm
    | succ k=>rw [blk,if_pos (by omega)] at h;exact (Prod.mk.inj h).1.symm
   have HF:=Aside0.mk hfin
   clear hfin
   go_wp2_with fail
   refine (PFnReadString.synErr_any s g (some ⟨b,0,none⟩) c r _ _ (PFnReadString.old_cell HX.out HG1.out) (HS1.out.below HX.out).cells (HS1.out.below HX.out).le hs (by omega) (by omega)).mono ?_
   rintro e w4 ⟨⟨q,rfl⟩,hb9⟩
   have HX4:Aside0 (Below W1.heap.size W1 w4):=⟨below_then HX.out HX.out.size hb9⟩
   clear hb9
   have e0:w4.heap[w.heap.size]? = some (.cells #[.int .i64 0,.int .i64 0,.int .i64 0,.string ⟨#[]⟩] 58 (0,0)):=(HX4.out.block _ (by have:=HZ1.out;omega)).trans HE1.out
   have d0:=(blk_cell e0 0).trans rfl
   have d1:=(blk_cell e0 1).trans rfl
   have d2:=(blk_cell e0 2).trans rfl
   have d3:=(blk_cell e0 3).trans rfl
   have f0:=fun j=>blk_frozen e0 j
   have E0:=Aside0.mk e0
   clear e0
   go_wp2_with fail
   obtain ⟨q0,q1,q2,q3⟩:=res4 E0.out (.int .i64 0) (.int .i64 0) (.int .i64 0) (.string ⟨#[]⟩)
   refine bodyPost_ret (v:=.tuple #[tk 0 0 0 ⟨#[]⟩,.iface 182 (.pointer (some ⟨q,0,none⟩))]) (by simp [results,Tryz.results108,go_sem,q0,q1,q2,q3]) rfl ⟨?_,?_⟩
   ·rw [HTT.out,HF.out];show Told _ none
    exact ⟨q,rfl⟩
   ·exact set4_below (HB1.out.trans (HX4.out.mono (by have:=HZ1.out;omega))) (Nat.le_refl _) _ _ _ _
  ·have hlt:p < (s.size:Int):=by omega
   have hgb:decide (p ≥ (s.size:Int)) = false:=decide_eq_false hge
   obtain ⟨k,rfl⟩:∃ k,gk = k + 1:=⟨gk - 1,by have:=HA.out.2.2.2.2.1;omega⟩
   obtain ⟨o,ho⟩:∃ o,o = s.extract (start + 3).toNat p.toNat:=⟨_,rfl⟩
   have hrun:=HA.out.2.2.2.2.2.1
   rw [blk,if_neg (by omega),← ho] at hrun
   have HRUN:=Aside0.mk hrun
   have HO:=Aside0.mk ho
   obtain ⟨⟨cd,n⟩,hrn⟩:∃ r,r = rn s p:=⟨_,rfl⟩
   have hi34:=rn_is s p 34 (by omega) (by decide) (by decide)
   have hi92:=rn_is s p 92 (by omega) (by decide) (by decide)
   rw [← hrn] at hi34 hi92
   have HRN:=Aside0.mk hrn
   obtain ⟨⟨c1,n1⟩,hrn1⟩:∃ r,r = rn s (p + 1):=⟨_,rfl⟩
   have hj1:=(rn_is s (p + 1) 34 (by omega) (by decide) (by decide)).1
   rw [← hrn1] at hj1
   have HRN1:=Aside0.mk hrn1
   obtain ⟨⟨c2,n2_⟩,hrn2⟩:∃ r,r = rn s (p + 2):=⟨_,rfl⟩
   have hj2:=(rn_is s (p + 2) 34 (by omega) (by decide) (by decide)).1
   rw [← hrn2] at hj2
   have HRN2:=Aside0.mk hrn2
   obtain ⟨⟨c3,n3_⟩,hrn3⟩:∃ r,r = rn s (p + 3):=⟨_,rfl⟩
   have hj3:=(rn_is s (p + 3) 34 (by omega) (by decide) (by decide)).1
   rw [← hrn3] at hj3
   have HRN3:=Aside0.mk hrn3
   clear hrun ho hrn hrn1 hrn2 hrn3
   go_wp2_with fail
   refine (runeAt_any s b c p _ (HS1.out.below HX.out) hs (by omega) (by omega)).mono ?_
   rintro e w2 ⟨rfl,hb2⟩
   rw [← HRN.out]
   have HX2:Aside0 (Below W1.heap.size W1 w2):=⟨below_then HX.out HX.out.size hb2⟩
   clear hb2
   go_upto_if 46 with fail
   go_cut [7,8,9] (fun v7 v8 v9 wc=>v7 = .int .i64 p ∧ v8 = .int .i64 r ∧ v9 = .int .i64 (start + 3) ∧ Aside0 (st3 s p 34 34 34 = false) ∧ Aside0 (Below W1.heap.size W1 wc))
   case first=>
    by_cases e1:cd = 34
    ·have b1:(cd == 34) = true:=by simp [e1]
     have hx0:=hi34.1.1 e1
     clear hi34 hi92 e1
     go_wp2_with fail
     refine (runeAt_any s b c (p + 1) _ (HS1.out.below HX2.out) hs (by omega) (by omega)).mono ?_
     rintro e w3 ⟨rfl,hb2⟩
     rw [← HRN1.out]
     have HX3:Aside0 (Below W1.heap.size W1 w3):=⟨below_then HX2.out HX2.out.size hb2⟩
     clear hb2
     go_wp2_with fail
     refine (runeAt_any s b c (p + 2) _ (HS1.out.below HX3.out) hs (by omega) (by omega)).mono ?_
     rintro e w4 ⟨rfl,hb2⟩
     rw [← HRN2.out]
     have HX4:Aside0 (Below W1.heap.size W1 w4):=⟨below_then HX3.out HX3.out.size hb2⟩
     clear hb2
     go_upto_region 11 with fail
     go_cut [66] (fun v66 wc=>v66 = .bool (c1 == 34 && c2 == 34) ∧ wc = w4)
     case first=>
      by_cases e2:c1 = 34
      ·have b2:(c1 == 34) = true:=by simp [e2]
       clear e2 hj1 hj2 hj3
       go_wp2_with fail
       go_meet
       case rel=>exact ⟨by rw [b2];rfl,rfl⟩
      ·have b2:(c1 == 34) = false:=by simp [e2]
       clear e2 hj1 hj2 hj3
       go_wp2_with fail
       go_meet
       case rel=>exact ⟨by rw [b2];rfl,rfl⟩
     case rest=>
     obtain ⟨rfl,rfl⟩:=hcut
     obtain ⟨w4,rfl⟩:∃ w9,w9 = wc:=⟨_,rfl⟩
     have hst:st3 s p 34 34 34 = (c1 == 34 && c2 == 34):=by
      unfold st3
      rw [Bool.eq_iff_iff]
      simp only [Bool.and_eq_true,beq_iff_eq]
      rw [hj1,hj2]
      exact ⟨fun h=>⟨h.1.2,h.2⟩,fun h=>⟨⟨hx0,h.1⟩,h.2⟩⟩
     have HST:=Aside0.mk hst
     clear hst hj1 hj2 hj3
     cases hb:(c1 == 34 && c2 == 34) with
     | true=>
      have hfin:R = some (p + 3,o):=by
       have h:=HRUN.out
       rw [HST.out,hb,if_pos rfl] at h
       exact (Prod.mk.inj h).1.symm
      have HF:=Aside0.mk hfin
      have hcap:(s.size:Int) ≤ (c:Int):=by have:=(HS1.out.below HX4.out).le;omega
      have hne:¬ (c = (start + 3).toNat):=by omega
      have hbv:=Bv.impl_tells o (by rw [HO.out,ByteArray.size_extract];omega) 800000 (Nat.le_refl _)
      have HBV:=Aside0.mk (show PBsv.lexer_blockStringValue.f 800000 o = some (bvi o) from hbv)
      clear hfin hbv hb
      go_wp2_with fail
      refine (write_seg s b c (w.heap.size + 1) (w.heap.size + 1) _ (start + 3) p [] _ (HS1.out.below HX4.out) (Lib.IsBuffer.old HI1.out HX4.out) (by have:=HX4.out.size;have:=HZ1.out;omega) (by have:=HS.out.lt;omega) (by omega) (by omega) (by omega) hs (by decide)).mono ?_
      rintro e w5 ⟨⟨v3,rfl⟩,hI5,hb5⟩
      have HX5:Aside0 (Below (w.heap.size + 1) W1 w5):=⟨(HX4.out.mono (by have:=HZ1.out;omega)).trans hb5⟩
      rw [List.nil_append,← HO.out] at hI5
      have HI5:=Aside0.mk hI5
      clear hI5 hb5
      go_wp2_with fail
      refine (Tryz.Buffer_String (w.heap.size + 1) (w.heap.size + 1) o.data.toList _ HI5.out).mono ?_
      rintro e w6 ⟨rfl,⟨m4,rfl⟩⟩
      have ho4:(⟨o.data.toList.toArray⟩:ByteArray) = o:=by simp
      rw [ho4]
      clear ho4
      have HX6:=Aside0.mk (pw_below_drewN HX5.out m4)
      go_wp2_with fail
      refine (PBsv.lexer_blockStringValue.calls 800000 o (bvi o) _ HBV.out).mono ?_
      rintro e w7 ⟨rfl,hb7⟩
      have HX7:Aside0 (Below (w.heap.size + 1) W1 w7):=⟨below_then HX6.out (by have:=HX6.out.size;have:=HZ1.out;omega) hb7⟩
      clear hb7
      go_wp2_with fail
      refine (PFnReadString.lexer_makeToken.calls 19 start (p + 3) (bvi o) 19 start (p + 3) (bvi o) _ rfl).mono ?_
      rintro e w9 ⟨rfl,hb9⟩
      have HX9:Aside0 (Below (w.heap.size + 1) W1 w9):=⟨below_then HX7.out (by have:=HX7.out.size;have:=HZ1.out;omega) hb9⟩
      clear hb9
      have e0:w9.heap[w.heap.size]? = some (.cells #[.int .i64 0,.int .i64 0,.int .i64 0,.string ⟨#[]⟩] 58 (0,0)):=(HX9.out.block _ (by omega)).trans HE1.out
      have d0:=(blk_cell e0 0).trans rfl
      have d1:=(blk_cell e0 1).trans rfl
      have d2:=(blk_cell e0 2).trans rfl
      have d3:=(blk_cell e0 3).trans rfl
      have f0:=fun j=>blk_frozen e0 j
      have E0:=Aside0.mk e0
      clear e0
      go_wp2_with fail
      obtain ⟨q0,q1,q2,q3⟩:=res4 E0.out (.int .i64 19) (.int .i64 start) (.int .i64 (p + 3)) (.string (bvi o))
      refine bodyPost_ret (v:=.tuple #[tk 19 start (p + 3) (bvi o),.nilIface]) (by simp [results,Tryz.results108,go_sem,q0,q1,q2,q3]) rfl ⟨?_,?_⟩
      ·rw [HTT.out,HF.out]
       exact rfl
      ·exact set4_below (HB1.out.trans (HX9.out.mono (by omega))) (Nat.le_refl _) _ _ _ _
     | false=>
      have hs3:st3 s p 34 34 34 = false:=by rw [HST.out,hb]
      have HS3:=Aside0.mk hs3
      clear hb hs3
      go_wp2_with fail
      go_meet
      case rel=>exact ⟨rfl,rfl,rfl,⟨HS3.out⟩,⟨HX4.out⟩⟩
    ·have b1:(cd == 34) = false:=by simp [e1]
     have hs3:st3 s p 34 34 34 = false:=by
      unfold st3
      rw [beq_eq_false_iff_ne.2 (fun h=>e1 (hi34.1.2 h))];rfl
     have HS3:=Aside0.mk hs3
     clear hi34 hi92 e1 hs3 hj1 hj2 hj3
     go_wp2_with fail
     go_meet
     case rel=>exact ⟨rfl,rfl,rfl,⟨HS3.out⟩,⟨HX2.out⟩⟩
   case rest=>
   obtain ⟨rfl,rfl,rfl,HS3,HX3⟩:=hcut
   obtain ⟨w3,rfl⟩:∃ w9,w9 = wc:=⟨_,rfl⟩
   have hrun:=HRUN.out
   rw [if_neg (by simp [HS3.out])] at hrun
   have hn92:(bt s p == 92 && st3 s (p + 1) 34 34 34) = false:=by
    cases hx:(bt s p == 92 && st3 s (p + 1) 34 34 34) with
    | false=>rfl
    | true=>
     rw [hx,if_pos rfl] at hrun
     have:=blk_uns s k (p + 4) (o ++ ⟨#[34,34,34]⟩)
     rw [hrun] at this
     cases this
   rw [hn92,if_neg (by simp)] at hrun
   have hpt0:(ptS s p).2 ≠ 0:=by
    intro h
    rw [if_pos h] at hrun
    cases (Prod.mk.inj hrun).2
   rw [if_neg hpt0] at hrun
   have hrp2:=rn_pt s (by omega) p (by omega) hlt hpt0
   rw [← HRN.out] at hrp2
   have hbd:=rn_bounds s p (by omega) hlt
   rw [← HRN.out] at hbd
   rw [← hrp2] at hrun
   have HN92:=Aside0.mk hn92
   have hrun:(if isSrc cd = false then (none,false) else blk s k (p + n) (o ++ s.extract p.toNat (p + n).toNat) (false || decide (65535 < cd))) = (R,false):=hrun
   have HRUN2:=Aside0.mk hrun
   clear hrun hn92 hpt0 hrp2 HRUN
   obtain ⟨hbd1,hbd2,hbd3,hbd4,hbd5,-⟩:=hbd
   have hbd1:0 ≤ cd:=hbd1
   have hbd2:cd ≤ 1114111:=hbd2
   have hbd3:1 ≤ n:=hbd3
   have hbd4:n ≤ 4:=hbd4
   have hbd5:p + n ≤ (s.size:Int):=hbd5
   go_upto_region 16 with fail
   go_cut [93] (fun v93 wc=>v93 = .bool (!isSrc cd) ∧ wc = w3)
   case first=>
    by_cases e1:cd < 32
    ·have b1:decide (cd < 32) = true:=decide_eq_true e1
     by_cases e2:cd = 9
     ·have b2:(cd != 9) = false:=by simp [e2]
      have h1:isSrc cd = true:=by simp [isSrc,e2]
      clear e2 e1
      go_wp2_with fail
      go_meet
      case rel=>exact ⟨by rw [h1];rfl,rfl⟩
     ·have b2:(cd != 9) = true:=by simp [e2]
      by_cases e3:cd = 10
      ·have b3:(cd != 10) = false:=by simp [e3]
       have h1:isSrc cd = true:=by simp [isSrc,e3]
       clear e3 e2 e1
       go_wp2_with fail
       go_meet
       case rel=>exact ⟨by rw [h1];rfl,rfl⟩
      ·have b3:(cd != 10) = true:=by simp [e3]
       have h1:isSrc cd = (cd == 13):=by
        unfold isSrc
        rw [beq_eq_false_iff_ne.2 e2,beq_eq_false_iff_ne.2 e3,decide_eq_false (by omega:¬ cd ≥ 32)]
        simp
       clear e3 e2 e1
       go_wp2_with fail
       go_meet
       case rel=>exact ⟨by rw [h1];rfl,rfl⟩
    ·have b1:decide (cd < 32) = false:=decide_eq_false e1
     have h1:isSrc cd = true:=by
      unfold isSrc
      rw [decide_eq_true (by omega:cd ≥ 32)]
      simp
     go_wp2_with fail
     go_meet
     case rel=>exact ⟨by rw [h1];rfl,rfl⟩
   case rest=>
   obtain ⟨rfl,rfl⟩:=hcut
   obtain ⟨w3,rfl⟩:∃ w9,w9 = wc:=⟨_,rfl⟩
   cases hsr:isSrc cd with
   | false=>
    have hfin:R = none:=by
     have h:=HRUN2.out
     rw [if_pos hsr] at h
     exact (Prod.mk.inj h).1.symm
    have HF:=Aside0.mk hfin
    clear hfin hsr hi34 hi92 hj1 hj2 hj3
    go_wp2_with fail
    refine (PFnReadString.synErr_any s g (some ⟨b,0,none⟩) c r _ _ (PFnReadString.old_cell HX3.out HG1.out) (HS1.out.below HX3.out).cells (HS1.out.below HX3.out).le hs (by omega) (by omega)).mono ?_
    rintro e w4 ⟨⟨q,rfl⟩,hb9⟩
    have HX4:Aside0 (Below W1.heap.size W1 w4):=⟨below_then HX3.out HX3.out.size hb9⟩
    clear hb9
    have e0:w4.heap[w.heap.size]? = some (.cells #[.int .i64 0,.int .i64 0,.int .i64 0,.string ⟨#[]⟩] 58 (0,0)):=(HX4.out.block _ (by have:=HZ1.out;omega)).trans HE1.out
    have d0:=(blk_cell e0 0).trans rfl
    have d1:=(blk_cell e0 1).trans rfl
    have d2:=(blk_cell e0 2).trans rfl
    have d3:=(blk_cell e0 3).trans rfl
    have f0:=fun j=>blk_frozen e0 j
    have E0:=Aside0.mk e0
    clear e0
    go_wp2_with fail
    obtain ⟨q0,q1,q2,q3⟩:=res4 E0.out (.int .i64 0) (.int .i64 0) (.int .i64 0) (.string ⟨#[]⟩)
    refine bodyPost_ret (v:=.tuple #[tk 0 0 0 ⟨#[]⟩,.iface 182 (.pointer (some ⟨q,0,none⟩))]) (by simp [results,Tryz.results108,go_sem,q0,q1,q2,q3]) rfl ⟨?_,?_⟩
    ·rw [HTT.out,HF.out];show Told _ none
     exact ⟨q,rfl⟩
    ·exact set4_below (HB1.out.trans (HX4.out.mono (by have:=HZ1.out;omega))) (Nat.le_refl _) _ _ _ _
   | true=>
    have hnext:blk s k (p + n) (s.extract (start + 3).toNat (p + n).toNat) false = (R,false):=by
     have h:=HRUN2.out
     rw [if_neg (by simp [hsr]),HO.out,extract_step s (start + 3) p n (by omega) hp1 (by omega) hbd5] at h
     have hu:(false || decide (65535 < cd)) = false:=by
      cases hx:(false || decide (65535 < cd)) with
      | false=>rfl
      | true=>
       rw [hx] at h
       have:=blk_uns s k (p + n) (s.extract (start + 3).toNat (p + n).toNat)
       rw [h] at this
       cases this
     rw [hu] at h
     exact h
    have HNX:=Aside0.mk hnext
    clear hnext hsr hi34
    go_upto_if 100 with fail
    go_cut [7,8,9] (fun v7 v8 v9 wc=>v7 = .int .i64 p ∧ v8 = .int .i64 r ∧ v9 = .int .i64 (start + 3) ∧ Aside0 (Below W1.heap.size W1 wc))
    case first=>
     by_cases e1:cd = 92
     ·have b1:(cd == 92) = true:=by simp [e1]
      have hx0:=hi92.1.1 e1
      have hs4:(c1 == 34 && c2 == 34 && c3 == 34) = false:=by
       have h:=HN92.out
       rw [← nx_bt hlt,hx0] at h
       have h:st3 s (p + 1) 34 34 34 = false:=by simpa using h
       rw [← h]
       unfold st3
       rw [Bool.eq_iff_iff]
       simp only [Bool.and_eq_true,beq_iff_eq]
       rw [hj1,hj2,hj3,show p + 1 + 1 = p + 2 by omega,show p + 1 + 2 = p + 3 by omega]
      have HS4:=Aside0.mk hs4
      clear hi92 e1 hs4 hj1 hj2 hj3
      go_wp2_with fail
      refine (runeAt_any s b c (p + 1) _ (HS1.out.below HX3.out) hs (by omega) (by omega)).mono ?_
      rintro e w4 ⟨rfl,hb2⟩
      rw [← HRN1.out]
      have HX4:Aside0 (Below W1.heap.size W1 w4):=⟨below_then HX3.out HX3.out.size hb2⟩
      clear hb2
      go_wp2_with fail
      refine (runeAt_any s b c (p + 2) _ (HS1.out.below HX4.out) hs (by omega) (by omega)).mono ?_
      rintro e w5 ⟨rfl,hb2⟩
      rw [← HRN2.out]
      have HX5:Aside0 (Below W1.heap.size W1 w5):=⟨below_then HX4.out HX4.out.size hb2⟩
      clear hb2
      go_wp2_with fail
      refine (runeAt_any s b c (p + 3) _ (HS1.out.below HX5.out) hs (by omega) (by omega)).mono ?_
      rintro e w6 ⟨rfl,hb2⟩
      rw [← HRN3.out]
      have HX6:Aside0 (Below W1.heap.size W1 w6):=⟨below_then HX5.out HX5.out.size hb2⟩
      clear hb2
      go_upto_region 22 with fail
      go_cut [131] (fun vb wc=>vb = .bool false ∧ wc = w6)
      case first=>
       have h:=HS4.out
       by_cases e2:c1 = 34
       ·have b2:(c1 == 34) = true:=by simp [e2]
        rw [b2,Bool.true_and] at h
        by_cases e3:c2 = 34
        ·have b3:(c2 == 34) = true:=by simp [e3]
         rw [b3,Bool.true_and] at h
         clear e2 e3
         go_wp2_with fail
         go_meet
         case rel=>exact ⟨rfl,rfl⟩
        ·have b3:(c2 == 34) = false:=by simp [e3]
         clear e2 e3 h
         go_wp2_with fail
         go_meet
         case rel=>exact ⟨rfl,rfl⟩
       ·have b2:(c1 == 34) = false:=by simp [e2]
        clear e2 h
        go_wp2_with fail
        go_meet
        case rel=>exact ⟨rfl,rfl⟩
      case rest=>
      obtain ⟨rfl,rfl⟩:=hcut
      obtain ⟨w6,rfl⟩:∃ w9,w9 = wc:=⟨_,rfl⟩
      go_wp2_with fail
      go_meet
      case rel=>exact ⟨rfl,rfl,rfl,⟨HX6.out⟩⟩
     ·have b1:(cd == 92) = false:=by simp [e1]
      clear hi92 e1 hj1 hj2 hj3
      go_wp2_with fail
      go_meet
      case rel=>exact ⟨rfl,rfl,rfl,⟨HX3.out⟩⟩
    case rest=>
    obtain ⟨rfl,rfl,rfl,HX4⟩:=hcut
    obtain ⟨w4,rfl⟩:∃ w9,w9 = wc:=⟨_,rfl⟩
    clear hi92 hj1 hj2 hj3
    go_wp2_with fail
    go_roundg k
    case measure=>omega
    case rel=>exact ⟨p + n,r + 1,rfl,rfl,rfl,⟨by omega,by omega,by omega,by omega,by have:=HA.out.2.2.2.2.1;omega,HNX.out,HX4.out⟩⟩
end Go.Proofs.YtbobbognjmofdaaGreatDoor.Lex
end
end
section
section
namespace Go.Proofs.YtbobbognjmofdaaGreatDoor.Lex
open Go.RowKit Go.Proofs.YtbobbognjmofdaaGreatDoorW.PrintWords Go.Proofs.YtbobbognjmofdaaGreatDoorW.PrintLast Go.Proofs.YtbobbognjmofdaaGreatDoorW.PrintMore
open Go.Proofs.YtbobbognjmofdaaGreatDoor.Ptext
set_option linter.unusedVariables false
set_option linter.unusedSimpArgs false
set_option maxRecDepth 4000 in
set_option maxHeartbeats 2000000 in
theorem readString_any (s:ByteArray) (g b c:Nat) (start:Int) (R:Option (Int × ByteArray)) (w:World) (h:Src w b c s) (hg:w.cell? ⟨g,0,none⟩ = some (.slice (some ⟨b,0,none⟩) s.size c)) (hs:s.size ≤ 2000) (h0:0 ≤ start) (hst:start < s.size)
  (hR:txt s (s.size + 1) (start + 1) ⟨#[]⟩ false = (R,false)) :
  Calls Tryz.prog 57 #[.pointer (some ⟨g,0,none⟩),.int .i64 start] w fun e w'=>Told e (strTok start R) ∧ Below w.heap.size w w':=by
 have HS:=Aside0.mk h
 have HG:=Aside0.mk hg
 have HR:=Aside0.mk hR
 have HT:=Aside0.mk hR
 have hg1:∀ o,(w.alloc o).cell? ⟨g,0,none⟩ = some (.slice (some ⟨b,0,none⟩) s.size c):=fun o=>PFnReadString.old_cell (below_alloc (Below.refl _ _) o) hg
 clear h hR hg
 obtain ⟨T,hT⟩:∃ T,T = strTok start R:=⟨_,rfl⟩
 rw [← hT]
 have HTT:=Aside0.mk hT
 clear hT
 go_enter Tryz.func57,Tryz.ntmps57
 go_wp2_with fail
 obtain ⟨W1,hW1⟩:∃ W1,W1 = (w.alloc (.cells #[.int .i64 0,.int .i64 0,.int .i64 0,.string ⟨#[]⟩] 58)).alloc (.cells #[.slice none 0 0,.int .i64 0,.int .i8 0] 179):=⟨_,rfl⟩
 have hB1:Below w.heap.size w W1:=by rw [hW1];exact below_alloc (below_alloc (Below.refl _ _) _) _
 have hE1:W1.heap[w.heap.size]? = some (.cells #[.int .i64 0,.int .i64 0,.int .i64 0,.string ⟨#[]⟩] 58 (0,0)):=by
  rw [hW1,heap_alloc_old _ _ (by simp)]
  exact heap_alloc_new _ _
 have hI1:Lib.IsBuffer 179 5 (w.heap.size + 1) (w.heap.size + 1) (Lib.byteCells []) W1:=by
  have:=Lib.fresh_isBuffer 179 5 (w.alloc (.cells #[.int .i64 0,.int .i64 0,.int .i64 0,.string ⟨#[]⟩] 58))
  rw [hW1]
  simpa [Lib.byteCells] using this
 have hz1:W1.heap.size = w.heap.size + 2:=by rw [hW1];simp
 rw [← hW1]
 have HB1:=Aside0.mk hB1
 have HE1:=Aside0.mk hE1
 have HI1:=Aside0.mk hI1
 have HZ1:=Aside0.mk hz1
 clear hW1 hB1 hE1 hI1 hz1 hg1
 go_loopg [7,8,9] (s.size + 1) (fun kq v7 v8 v9 wr=>∃ (p r ch:Int) (bs:List UInt8),v7 = .int .i64 p ∧ v8 = .int .i64 r ∧ v9 = .int .i64 ch ∧ Aside0 (1 ≤ ch ∧ ch ≤ p ∧ p ≤ s.size ∧ 0 ≤ r ∧ r ≤ p ∧ (s.size:Int) < p + kq ∧ (bs.length:Int) ≤ 4 * ch ∧ txt s kq p ⟨(bs ++ (s.extract ch.toNat p.toNat).data.toList).toArray⟩ false = (R,false) ∧ Lib.IsBuffer 179 5 (w.heap.size + 1) (w.heap.size + 1) (Lib.byteCells bs) wr ∧ Below (w.heap.size + 1) W1 wr))
 case atStart=>
  refine ⟨start + 1,start + 1,start + 1,[],rfl,rfl,rfl,⟨by omega,by omega,by omega,by omega,by omega,by omega,by show ((0:Nat):Int) ≤ _;omega,?_,HI1.out,Below.refl _ _⟩⟩
  have:s.extract (start + 1).toNat (start + 1).toNat = ⟨#[]⟩:=by
   apply ByteArray.ext;simp
  rw [this]
  exact HR.out
 case round=>
  obtain ⟨p,r,ch,bs,rfl,rfl,rfl,HA⟩:=hrel
  have hch1:=HA.out.1
  have hchp:=HA.out.2.1
  have hps:=HA.out.2.2.1
  have hr0:=HA.out.2.2.2.1
  have hrp:=HA.out.2.2.2.2.1
  have hBw:Below w.heap.size w wr:=HB1.out.trans (HA.out.2.2.2.2.2.2.2.2.2.mono (by omega))
  have HSr:=Aside0.mk (HS.out.below hBw)
  have HBw:=Aside0.mk hBw
  clear hBw
  go_wp2_with fail
  have hX:Below (w.heap.size + 1) W1 wr:=HA.out.2.2.2.2.2.2.2.2.2
  have hIr:=HA.out.2.2.2.2.2.2.2.2.1
  refine (runeAt_any s b c p wr HSr.out hs (by omega) (by omega)).mono ?_
  rintro e w2 ⟨rfl,hb2⟩
  have HX2:=Aside0.mk (hX.trans (hb2.mono (by have:=hX.size;have:=HZ1.out;omega)))
  have HI2:=Aside0.mk (Lib.IsBuffer.old hIr hb2)
  have HS2:=Aside0.mk (HSr.out.below hb2)
  clear hX hIr hb2
  obtain ⟨⟨cd,n⟩,hrn⟩:∃ r,r = rn s p:=⟨_,rfl⟩
  rw [← hrn]
  have HRN:=Aside0.mk hrn
  clear hrn
  by_cases hlt:p < (s.size:Int)
  ·have hltb:decide (p < (s.size:Int)) = true:=decide_eq_true hlt
   have hcap:(s.size:Int) ≤ (c:Int):=by have:=HS.out.le;omega
   have hne:¬ (c = ch.toNat):=by omega
   obtain ⟨k,rfl⟩:∃ k,gk = k + 1:=⟨gk - 1,by have:=HA.out.2.2.2.2.2.1;omega⟩
   obtain ⟨o,ho⟩:∃ o:ByteArray,o = ⟨(bs ++ (s.extract ch.toNat p.toNat).data.toList).toArray⟩:=⟨_,rfl⟩
   have hrun:=HA.out.2.2.2.2.2.2.2.1
   rw [← ho] at hrun
   have HO:=Aside0.mk ho
   clear ho
   obtain ⟨c0,hc0⟩:∃ c0,c0 = bt s p:=⟨_,rfl⟩
   have hcr:=bt_range s p
   rw [txt,if_neg (by omega),← hc0] at hrun
   rw [← hc0] at hcr
   have HC0:=Aside0.mk hc0
   clear hc0
   have hrb:=rn_bounds s p (by omega) hlt
   rw [← HRN.out,← HC0.out] at hrb
   have hcd:c0 < 128 → (cd,n) = (c0,1):=fun h=>by rw [HRN.out,HC0.out];exact rn_small s p (by omega) hlt (by rw [← HC0.out];exact h)
   by_cases e1:c0 = 34
   ·rw [if_pos e1] at hrun
    have hfin:R = some (p + 1,o):=by injection hrun with h;exact h.symm
    have HF:=Aside0.mk hfin
    obtain ⟨rfl,rfl⟩:=Prod.mk.inj (hcd (by omega))
    subst e1
    clear hfin hrun hcd hrb hcr
    go_wp2_with fail
    have hlb:(bs.length:Int) ≤ 4 * ch:=HA.out.2.2.2.2.2.2.1
    refine (write_seg s b c (w.heap.size + 1) (w.heap.size + 1) _ ch p bs _ HS2.out HI2.out (by have:=HX2.out.size;have:=HZ1.out;omega) (by have:=HS.out.lt;omega) (by omega) hchp (by omega) hs (by omega)).mono ?_
    rintro e w3 ⟨⟨v3,rfl⟩,hI3,hb3⟩
    have HX3:=Aside0.mk (HX2.out.trans hb3)
    rw [show (bs ++ (s.extract ch.toNat p.toNat).data.toList) = o.data.toList by rw [HO.out]] at hI3
    have HI3:=Aside0.mk hI3
    clear hI3 hb3
    go_wp2_with fail
    refine (Tryz.Buffer_String (w.heap.size + 1) (w.heap.size + 1) o.data.toList _ HI3.out).mono ?_
    rintro e w4 ⟨rfl,⟨m4,rfl⟩⟩
    have ho4:(⟨o.data.toList.toArray⟩:ByteArray) = o:=by simp
    rw [ho4]
    clear ho4
    have HX4:=Aside0.mk (pw_below_drewN HX3.out m4)
    go_wp2_with fail
    refine (PFnReadString.lexer_makeToken.calls 18 start (p + 1) o 18 start (p + 1) o _ rfl).mono ?_
    rintro e w9 ⟨rfl,hb9⟩
    have hX9:Below (w.heap.size + 1) W1 w9:=HX4.out.trans (hb9.mono (by have:=HX4.out.size;have:=HZ1.out;omega))
    have e0:w9.heap[w.heap.size]? = some (.cells #[.int .i64 0,.int .i64 0,.int .i64 0,.string ⟨#[]⟩] 58 (0,0)):=(hX9.block _ (by omega)).trans HE1.out
    have HX9:=Aside0.mk hX9
    clear hX9 hb9
    have d0:=(blk_cell e0 0).trans rfl
    have d1:=(blk_cell e0 1).trans rfl
    have d2:=(blk_cell e0 2).trans rfl
    have d3:=(blk_cell e0 3).trans rfl
    have f0:=fun j=>blk_frozen e0 j
    have E0:=Aside0.mk e0
    clear e0
    go_wp2_with fail
    obtain ⟨q0,q1,q2,q3⟩:=res4 E0.out (.int .i64 18) (.int .i64 start) (.int .i64 (p + 1)) (.string o)
    refine bodyPost_ret (v:=.tuple #[tk 18 start (p + 1) o,.nilIface]) (by simp [results,Tryz.results57,go_sem,q0,q1,q2,q3]) rfl ⟨?_,?_⟩
    ·rw [HTT.out,HF.out]
     exact rfl
    ·exact set4_below (HB1.out.trans (HX9.out.mono (by omega))) (Nat.le_refl _) _ _ _ _
   rw [if_neg e1] at hrun
   by_cases e2:c0 = 10 ∨ c0 = 13
   ·rw [if_pos e2] at hrun
    have hfin:R = none:=by injection hrun with h;exact h.symm
    have HF:Aside0 (R = none):=⟨hfin⟩
    clear hfin
    obtain ⟨rfl,rfl⟩:=Prod.mk.inj (hcd (by omega))
    have e3:(cd != 34) = true:=by simp;omega
    clear hrun hcd hrb hcr e1
    rcases e2 with rfl | rfl
    all_goals
     go_wp2_with fail
     refine (PFnReadString.synErr_any s g (some ⟨b,0,none⟩) c r _ _ (PFnReadString.old_cell (HB1.out.trans (HX2.out.mono (by omega))) HG.out) HS2.out.cells HS2.out.le hs (by omega) (by omega)).mono ?_
     rintro e w9 ⟨⟨q,rfl⟩,hb9⟩
     have hX9:Below (w.heap.size + 1) W1 w9:=HX2.out.trans (hb9.mono (by have:=HX2.out.size;have:=HZ1.out;omega))
     have e0:w9.heap[w.heap.size]? = some (.cells #[.int .i64 0,.int .i64 0,.int .i64 0,.string ⟨#[]⟩] 58 (0,0)):=(hX9.block _ (by omega)).trans HE1.out
     have HX9:=Aside0.mk hX9
     clear hX9 hb9
     have d0:=(blk_cell e0 0).trans rfl
     have d1:=(blk_cell e0 1).trans rfl
     have d2:=(blk_cell e0 2).trans rfl
     have d3:=(blk_cell e0 3).trans rfl
     have f0:=fun j=>blk_frozen e0 j
     have E0:=Aside0.mk e0
     clear e0
     go_wp2_with fail
     obtain ⟨q0,q1,q2,q3⟩:=res4 E0.out (.int .i64 0) (.int .i64 0) (.int .i64 0) (.string ⟨#[]⟩)
     refine bodyPost_ret (v:=.tuple #[tk 0 0 0 ⟨#[]⟩,.iface 182 (.pointer (some ⟨q,0,none⟩))]) (by simp [results,Tryz.results57,go_sem,q0,q1,q2,q3]) rfl ⟨?_,?_⟩
     ·rw [HTT.out,HF.out]
      exact ⟨q,rfl⟩
     ·exact set4_below (HB1.out.trans (HX9.out.mono (by omega))) (Nat.le_refl _) _ _ _ _
   rw [if_neg e2] at hrun
   by_cases e4:c0 = 92
   ·rw [if_pos e4] at hrun
    obtain ⟨rfl,rfl⟩:=Prod.mk.inj (hcd (by omega))
    subst e4
    have hlb:(bs.length:Int) ≤ 4 * ch:=HA.out.2.2.2.2.2.2.1
    clear hcd hrb hcr e1 e2
    have HRUN:=Aside0.mk hrun
    clear hrun
    go_wp2_with fail
    refine (write_seg s b c (w.heap.size + 1) (w.heap.size + 1) _ ch p bs _ HS2.out HI2.out (by have:=HX2.out.size;have:=HZ1.out;omega) (by have:=HS.out.lt;omega) (by omega) hchp (by omega) hs (by omega)).mono ?_
    rintro e w3 ⟨⟨v3,rfl⟩,hI3,hb3⟩
    have HX3:=Aside0.mk (HX2.out.trans hb3)
    have HI3:=Aside0.mk hI3
    have HS3:=Aside0.mk (HS.out.below (HB1.out.trans (HX3.out.mono (by omega))))
    clear hI3 hb3
    go_wp2_with fail
    refine (runeAt_any s b c (p + 1) w3 HS3.out hs (by omega) (by omega)).mono ?_
    rintro e w4 ⟨rfl,hb4⟩
    have HX4:=Aside0.mk (HX3.out.trans (hb4.mono (by have:=HX3.out.size;have:=HZ1.out;omega)))
    have HI4:=Aside0.mk (Lib.IsBuffer.old HI3.out hb4)
    have HS4:=Aside0.mk (HS3.out.below hb4)
    clear hb4
    have hnx:=rn_nx s (p + 1) (by omega)
    obtain ⟨⟨c2,n2⟩,hrn2⟩:∃ r,r = rn s (p + 1):=⟨_,rfl⟩
    rw [← hrn2] at hnx ⊢
    clear hrn2
    have hun:esc s p = match escText (nx s (p + 1)) with
     | some t=>(t,2,false)
     | none=>if nx s (p + 1) ≠ 117 then (⟨#[]⟩,0,false) else
      match hexs s 4 (p + 2) 0 with
      | .error q=>(⟨#[]⟩,0,nx s q == 123)
      | .ok n=>if 55296 ≤ n ∧ n < 57344 then (⟨#[]⟩,0,true) else (Utf8.encode n,6,n == 0):=rfl
    obtain ⟨x,hx⟩:∃ x,x = nx s (p + 1):=⟨_,rfl⟩
    have hxr:=nx_range s (p + 1)
    rw [← hx] at hun hnx hxr
    have HXX:=Aside0.mk hx
    clear hx
    have hsl:(s.extract ch.toNat p.toNat).data.toList.length = p.toNat - ch.toNat:=by
     rw [Array.length_toList]
     show (s.extract ch.toNat p.toNat).size = _
     rw [ByteArray.size_extract];omega
    have hbl:((bs ++ (s.extract ch.toNat p.toNat).data.toList).length:Int) ≤ 4 * p:=by
     rw [List.length_append,hsl];omega
    obtain ⟨bs1,hbs1⟩:∃ bs1,bs1 = bs ++ (s.extract ch.toNat p.toNat).data.toList:=⟨_,rfl⟩
    rw [← hbs1] at hbl
    have HI4:Aside0 (Lib.IsBuffer 179 5 (w.heap.size + 1) (w.heap.size + 1) (Lib.byteCells bs1) w4):=⟨by rw [hbs1];exact HI4.out⟩
    have HO1:Aside0 (o = ⟨bs1.toArray⟩):=⟨by rw [hbs1];exact HO.out⟩
    clear hbs1 hsl
    have hfix:∀ (q:Int) (rr:Int) (bs2:List UInt8) (w5:World),q ≤ s.size → 0 ≤ rr → rr ≤ q → p + 1 ≤ q → (bs2.length:Int) ≤ 4 * q → txt s k q ⟨bs2.toArray⟩ false = (R,false) → Lib.IsBuffer 179 5 (w.heap.size + 1) (w.heap.size + 1) (Lib.byteCells bs2) w5 → Below (w.heap.size + 1) W1 w5 →
      ∃ (p r ch:Int) (bs:List UInt8),Value.int .i64 q = .int .i64 p ∧ Value.int .i64 rr = .int .i64 r ∧ Value.int .i64 q = .int .i64 ch ∧ Aside0 (1 ≤ ch ∧ ch ≤ p ∧ p ≤ s.size ∧ 0 ≤ r ∧ r ≤ p ∧ (s.size:Int) < p + k ∧ (bs.length:Int) ≤ 4 * ch ∧ txt s k p ⟨(bs ++ (s.extract ch.toNat p.toNat).data.toList).toArray⟩ false = (R,false) ∧ Lib.IsBuffer 179 5 (w.heap.size + 1) (w.heap.size + 1) (Lib.byteCells bs) w5 ∧ Below (w.heap.size + 1) W1 w5):=by
     intro q rr bs2 w5 q1 q2 q3 q4 q5 q6 q7 q8
     refine ⟨q,rr,q,bs2,rfl,rfl,rfl,⟨by omega,by omega,q1,q2,q3,by have:=HA.out.2.2.2.2.2.1;omega,q5,?_,q7,q8⟩⟩
     have he:(s.extract q.toNat q.toNat).data.toList = []:=by
      have:s.extract q.toNat q.toNat = ⟨#[]⟩:=by apply ByteArray.ext;simp
      rw [this]
     rw [he,List.append_nil]
     exact q6
    have HFIX:=Aside0.mk hfix
    clear hfix
    cases het:escText x with
    | some t=>
     rw [het] at hun
     have hrun:=HRUN.out
     rw [hun] at hrun
     have hrun:txt s k (p + 2) (o ++ t) false = (R,false):=hrun
     obtain ⟨hx0,hx1⟩:=esc_pos x t het
     obtain ⟨hc2,hq⟩:=hnx.2.1 ⟨hx0,hx1⟩
     obtain ⟨rfl,rfl⟩:=Prod.mk.inj hc2
     have HRUN2:=Aside0.mk hrun
     have HT2:=Aside0.mk (esc_enc _ t het)
     have hec:=esc_cases _ t het
     clear hrun hun het hnx hc2 hx0 hx1 HXX
     rcases hec with rfl | rfl | rfl | rfl | rfl | rfl | rfl | rfl
     all_goals
      go_wp2_with fail
      refine (write_rune _ _ _ _ _ HI4.out (by have:=HX4.out.size;have:=HZ1.out;omega) (by omega) (by omega) (by omega)).mono ?_
      rintro e w5 ⟨⟨v5,rfl⟩,hI5,hb5⟩
      have HI5:=Aside0.mk hI5
      have HX5:=Aside0.mk (HX4.out.trans hb5)
      clear hI5 hb5
      go_wp2_with fail
      go_roundg k
      case measure=>omega
      case rel=>
       refine HFIX.out (p + 1 + 1) (r + 1 + 1) _ _ (by omega) (by omega) (by omega) (by omega) ?_ ?_ HI5.out HX5.out
       ·rw [List.length_append]
        refine Int.le_trans (Int.ofNat_le.2 (Nat.add_le_add_left (encodeRune_len _) _)) ?_
        push_cast
        omega
       ·rw [show p + 1 + 1 = p + 2 by omega]
        have hr2:=HRUN2.out
        rw [HO1.out] at hr2
        refine (congrArg (fun z=>txt s k (p + 2) z false) ?_).trans hr2
        exact app_text bs1 _ _ HT2.out
    | none=>
     rw [het] at hun
     have hno:=esc_none x het
     clear het
     by_cases hu:x = 117
     ·subst hu
      obtain ⟨hc2,hq⟩:=hnx.2.1 ⟨by omega,by omega⟩
      obtain ⟨rfl,rfl⟩:=Prod.mk.inj hc2
      have hun:esc s p = match hexs s 4 (p + 2) 0 with
       | .error q=>(⟨#[]⟩,0,nx s q == 123)
       | .ok n=>if 55296 ≤ n ∧ n < 57344 then (⟨#[]⟩,0,true) else (Utf8.encode n,6,n == 0):=hun
      clear hnx hc2 hno
      by_cases hsz:(s.size:Int) ≤ p + 1 + 4
      ·have hszb:decide ((s.size:Int) ≤ p + 1 + 4) = true:=decide_eq_true hsz
       have hn0:nx s (p + 2 + 3) = 0:=by unfold nx;rw [if_neg (by omega)]
       obtain ⟨qe,hqe⟩:=hexs_err s (p + 2) (.inr (.inr (.inr (by rw [hn0];decide))))
       rw [hqe] at hun
       have hrun:=HRUN.out
       rw [hun] at hrun
       have hfin:R = none:=by injection hrun with h;exact h.symm
       have HF:Aside0 (R = none):=⟨hfin⟩
       clear hfin
       clear hun hrun hqe hn0
       go_wp2_with fail
       refine (PFnReadString.synErr_any s g (some ⟨b,0,none⟩) c (r + 1) _ _ (PFnReadString.old_cell (HB1.out.trans (HX4.out.mono (by omega))) HG.out) HS4.out.cells HS4.out.le hs (by omega) (by omega)).mono ?_
       rintro e w9 ⟨⟨q,rfl⟩,hb9⟩
       have hX9:Below (w.heap.size + 1) W1 w9:=HX4.out.trans (hb9.mono (by have:=HX4.out.size;have:=HZ1.out;omega))
       have e0:w9.heap[w.heap.size]? = some (.cells #[.int .i64 0,.int .i64 0,.int .i64 0,.string ⟨#[]⟩] 58 (0,0)):=(hX9.block _ (by omega)).trans HE1.out
       have HX9:=Aside0.mk hX9
       clear hX9 hb9
       have d0:=(blk_cell e0 0).trans rfl
       have d1:=(blk_cell e0 1).trans rfl
       have d2:=(blk_cell e0 2).trans rfl
       have d3:=(blk_cell e0 3).trans rfl
       have f0:=fun j=>blk_frozen e0 j
       have E0:=Aside0.mk e0
       clear e0
       go_wp2_with fail
       obtain ⟨q0,q1,q2,q3⟩:=res4 E0.out (.int .i64 0) (.int .i64 0) (.int .i64 0) (.string ⟨#[]⟩)
       refine bodyPost_ret (v:=.tuple #[tk 0 0 0 ⟨#[]⟩,.iface 182 (.pointer (some ⟨q,0,none⟩))]) (by simp [results,Tryz.results57,go_sem,q0,q1,q2,q3]) rfl ⟨?_,?_⟩
       ·rw [HTT.out,HF.out]
        exact ⟨q,rfl⟩
       ·exact set4_below (HB1.out.trans (HX9.out.mono (by omega))) (Nat.le_refl _) _ _ _ _
      ·have hszb:decide ((s.size:Int) ≤ p + 1 + 4) = false:=decide_eq_false hsz
       have g1:=HS4.out.cell (p + 1 + 1) (by omega) (by omega)
       have g2:=HS4.out.cell (p + 1 + 2) (by omega) (by omega)
       have g3:=HS4.out.cell (p + 1 + 3) (by omega) (by omega)
       have g4:=HS4.out.cell (p + 1 + 4) (by omega) (by omega)
       have r1:=bt_range s (p + 1 + 1)
       have r2:=bt_range s (p + 1 + 2)
       have r3:=bt_range s (p + 1 + 3)
       have r4:=bt_range s (p + 1 + 4)
       have n1:nx s (p + 2) = bt s (p + 1 + 1):=by unfold nx;rw [if_pos (by omega),show p + 1 + 1 = p + 2 by omega]
       have n2:nx s (p + 2 + 1) = bt s (p + 1 + 2):=by unfold nx;rw [if_pos (by omega),show p + 1 + 2 = p + 2 + 1 by omega]
       have n3:nx s (p + 2 + 2) = bt s (p + 1 + 3):=by unfold nx;rw [if_pos (by omega),show p + 1 + 3 = p + 2 + 2 by omega]
       have n4:nx s (p + 2 + 3) = bt s (p + 1 + 4):=by unfold nx;rw [if_pos (by omega),show p + 1 + 4 = p + 2 + 3 by omega]
       obtain ⟨y1,hy1⟩:∃ y,y = bt s (p + 1 + 1):=⟨_,rfl⟩
       obtain ⟨y2,hy2⟩:∃ y,y = bt s (p + 1 + 2):=⟨_,rfl⟩
       obtain ⟨y3,hy3⟩:∃ y,y = bt s (p + 1 + 3):=⟨_,rfl⟩
       obtain ⟨y4,hy4⟩:∃ y,y = bt s (p + 1 + 4):=⟨_,rfl⟩
       rw [← hy1] at g1 r1 n1
       rw [← hy2] at g2 r2 n2
       rw [← hy3] at g3 r3 n3
       rw [← hy4] at g4 r4 n4
       clear hy1 hy2 hy3 hy4
       obtain ⟨rr,hU,ub1,ub2,hpos,hneg⟩:=uni_tells y1 y2 y3 y4 r1 r2 r3 r4
       have HU:=Aside0.mk hU
       have h4:=hexs4 s (p + 2)
       rw [n1,n2,n3,n4] at h4
       have HPOS:=Aside0.mk hpos
       have HNEG:=Aside0.mk hneg
       have H4:=Aside0.mk h4
       have HUN:=Aside0.mk hun
       have hcap1:p + 1 + 1 < (s.size:Int):=by omega
       have hcap2:p + 1 + 2 < (s.size:Int):=by omega
       have hcap3:p + 1 + 3 < (s.size:Int):=by omega
       have hcap4:p + 1 + 4 < (s.size:Int):=by omega
       clear hU hpos hneg h4 hun n1 n2 n3 n4
       by_cases hrr:rr < 0
       ·have hrrb:decide (rr < 0) = true:=decide_eq_true hrr
        have hfin:R = none:=by
         obtain ⟨qe,hqe⟩:∃ qe,hexs s 4 (p + 2) 0 = .error qe:=by
          rw [H4.out]
          have hp1:=hexv_range y1
          by_cases k1:hexv y1 < 0
          ·exact ⟨_,if_pos k1⟩
          rw [if_neg k1]
          by_cases k2:hexv y2 < 0
          ·exact ⟨_,if_pos k2⟩
          rw [if_neg k2]
          by_cases k3:hexv y3 < 0
          ·exact ⟨_,if_pos k3⟩
          rw [if_neg k3]
          by_cases k4:hexv y4 < 0
          ·exact ⟨_,if_pos k4⟩
          have:=HPOS.out ⟨by omega,by omega,by omega,by omega⟩
          omega
         have hun:=HUN.out
         rw [hqe] at hun
         have hrun:=HRUN.out
         rw [hun] at hrun
         injection hrun with h;exact h.symm
        have HF:Aside0 (R = none):=⟨hfin⟩
        clear hfin
        clear hrr
        go_wp2_with fail
        go_quiet (first | (go_at_call 99;exact quiet_uni _ _ _ _ _ _ _ HU.out) | fail)
        have HX4q:=Aside0.mk (pw_below_drewN HX4.out nq)
        have HS4q:=Aside0.mk (HS4.out.below (pw_below_drewN (Below.refl _ _) nq))
        go_wp2_with fail
        refine (PFnReadString.synErr_any s g (some ⟨b,0,none⟩) c (r + 1) _ _ (PFnReadString.old_cell (HB1.out.trans (HX4q.out.mono (by omega))) HG.out) HS4q.out.cells HS4q.out.le hs (by omega) (by omega)).mono ?_
        rintro e w9 ⟨⟨q,rfl⟩,hb9⟩
        have hX9:Below (w.heap.size + 1) W1 w9:=HX4q.out.trans (hb9.mono (by have:=HX4q.out.size;have:=HZ1.out;omega))
        have e0:w9.heap[w.heap.size]? = some (.cells #[.int .i64 0,.int .i64 0,.int .i64 0,.string ⟨#[]⟩] 58 (0,0)):=(hX9.block _ (by omega)).trans HE1.out
        have HX9:=Aside0.mk hX9
        clear hX9 hb9
        have d0:=(blk_cell e0 0).trans rfl
        have d1:=(blk_cell e0 1).trans rfl
        have d2:=(blk_cell e0 2).trans rfl
        have d3:=(blk_cell e0 3).trans rfl
        have f0:=fun j=>blk_frozen e0 j
        have E0:=Aside0.mk e0
        clear e0
        go_wp2_with fail
        obtain ⟨q0,q1,q2,q3⟩:=res4 E0.out (.int .i64 0) (.int .i64 0) (.int .i64 0) (.string ⟨#[]⟩)
        refine bodyPost_ret (v:=.tuple #[tk 0 0 0 ⟨#[]⟩,.iface 182 (.pointer (some ⟨q,0,none⟩))]) (by simp [results,Tryz.results57,go_sem,q0,q1,q2,q3]) rfl ⟨?_,?_⟩
        ·rw [HTT.out,HF.out]
         exact ⟨q,rfl⟩
        ·exact set4_below (HB1.out.trans (HX9.out.mono (by omega))) (Nat.le_refl _) _ _ _ _
       ·have hrrb:decide (rr < 0) = false:=decide_eq_false hrr
        have hok:hexs s 4 (p + 2) 0 = .ok rr:=by
         have k:¬ (hexv y1 < 0 ∨ hexv y2 < 0 ∨ hexv y3 < 0 ∨ hexv y4 < 0):=fun h=>by
          have:=HNEG.out h;omega
         rw [H4.out,if_neg (by omega),if_neg (by omega),if_neg (by omega),if_neg (by omega),HPOS.out ⟨by omega,by omega,by omega,by omega⟩]
        have hun:=HUN.out
        rw [hok] at hun
        have hun:esc s p = if 55296 ≤ rr ∧ rr < 57344 then (⟨#[]⟩,0,true) else (Utf8.encode rr,6,rr == 0):=hun
        have hrun:=HRUN.out
        by_cases hsur:55296 ≤ rr ∧ rr < 57344
        ·rw [hun,if_pos hsur] at hrun
         exact absurd (congrArg Prod.snd hrun) (by simp)
        rw [hun,if_neg hsur] at hrun
        have hrun:txt s k (p + 6) (o ++ Utf8.encode rr) (false || (rr == 0)) = (R,false):=hrun
        cases hz0:(rr == 0) with
        | true=>
         rw [hz0] at hrun
         have:=txt_mono s k (p + 6) (o ++ Utf8.encode rr)
         rw [show (false || true) = true from rfl] at hrun
         rw [hrun] at this
         cases this
        | false=>
         rw [hz0] at hrun
         have HRUN2:=Aside0.mk (show txt s k (p + 6) (o ++ Utf8.encode rr) false = (R,false) from hrun)
         have HT2:=Aside0.mk (enc_rune rr (by omega) (by omega) hsur)
         have hrr0:0 ≤ rr:=by omega
         clear hrun hun hok hsur hrr hz0
         go_wp2_with fail
         go_quiet (first | (go_at_call 99;exact quiet_uni _ _ _ _ _ _ _ HU.out) | fail)
         go_wp2_with fail
         have HX4q:=Aside0.mk (pw_below_drewN HX4.out nq)
         refine (write_rune _ _ _ _ _ (Lib.IsBuffer.drewN HI4.out nq) (by have:=HX4q.out.size;have:=HZ1.out;omega) (by omega) (by omega) (by omega)).mono ?_
         rintro e w5 ⟨⟨v5,rfl⟩,hI5,hb5⟩
         have HI5:=Aside0.mk hI5
         have HX5:=Aside0.mk (HX4q.out.trans hb5)
         clear hI5 hb5
         go_wp2_with fail
         go_roundg k
         case measure=>omega
         case rel=>
          refine HFIX.out (p + 1 + 4 + 1) (r + 1 + 4 + 1) _ _ (by omega) (by omega) (by omega) (by omega) ?_ ?_ HI5.out HX5.out
          ·rw [List.length_append]
           refine Int.le_trans (Int.ofNat_le.2 (Nat.add_le_add_left (encodeRune_len _) _)) ?_
           push_cast
           omega
          ·rw [show p + 1 + 4 + 1 = p + 6 by omega]
           have hr2:=HRUN2.out
           rw [HO1.out] at hr2
           refine (congrArg (fun z=>txt s k (p + 6) z false) ?_).trans hr2
           exact app_text bs1 _ _ HT2.out
     ·have hun:esc s p = (⟨#[]⟩,0,false):=by rw [hun];exact if_pos hu
      have hrun:=HRUN.out
      rw [hun] at hrun
      have hfin:R = none:=by injection hrun with h;exact h.symm
      have HF:Aside0 (R = none):=⟨hfin⟩
      clear hfin
      have hc9:c2 ≠ 34 ∧ c2 ≠ 92 ∧ c2 ≠ 47 ∧ c2 ≠ 98 ∧ c2 ≠ 102 ∧ c2 ≠ 110 ∧ c2 ≠ 114 ∧ c2 ≠ 116 ∧ c2 ≠ 117:=by
       by_cases h0:x = 0
       ·have:c2 ≤ 0:=hnx.1 h0
        omega
       ·by_cases h1:x < 128
        ·have:=(Prod.mk.inj (hnx.2.1 ⟨by omega,h1⟩).1).1
         omega
        ·have:128 ≤ c2:=hnx.2.2 (by omega)
         omega
      have b1:(c2 == 34) = false:=by simp;omega
      have b2:(c2 == 92) = false:=by simp;omega
      have b3:(c2 == 47) = false:=by simp;omega
      have b4:(c2 == 98) = false:=by simp;omega
      have b5:(c2 == 102) = false:=by simp;omega
      have b6:(c2 == 110) = false:=by simp;omega
      have b7:(c2 == 114) = false:=by simp;omega
      have b8:(c2 == 116) = false:=by simp;omega
      have b9:(c2 == 117) = false:=by simp;omega
      clear hun hrun hnx hno hu hc9
      go_wp2_with fail
      refine (PFnReadString.synErr_any s g (some ⟨b,0,none⟩) c (r + 1) _ _ (PFnReadString.old_cell (HB1.out.trans (HX4.out.mono (by omega))) HG.out) HS4.out.cells HS4.out.le hs (by omega) (by omega)).mono ?_
      rintro e w9 ⟨⟨q,rfl⟩,hb9⟩
      have hX9:Below (w.heap.size + 1) W1 w9:=HX4.out.trans (hb9.mono (by have:=HX4.out.size;have:=HZ1.out;omega))
      have e0:w9.heap[w.heap.size]? = some (.cells #[.int .i64 0,.int .i64 0,.int .i64 0,.string ⟨#[]⟩] 58 (0,0)):=(hX9.block _ (by omega)).trans HE1.out
      have HX9:=Aside0.mk hX9
      clear hX9 hb9
      have d0:=(blk_cell e0 0).trans rfl
      have d1:=(blk_cell e0 1).trans rfl
      have d2:=(blk_cell e0 2).trans rfl
      have d3:=(blk_cell e0 3).trans rfl
      have f0:=fun j=>blk_frozen e0 j
      have E0:=Aside0.mk e0
      clear e0
      go_wp2_with fail
      obtain ⟨q0,q1,q2,q3⟩:=res4 E0.out (.int .i64 0) (.int .i64 0) (.int .i64 0) (.string ⟨#[]⟩)
      refine bodyPost_ret (v:=.tuple #[tk 0 0 0 ⟨#[]⟩,.iface 182 (.pointer (some ⟨q,0,none⟩))]) (by simp [results,Tryz.results57,go_sem,q0,q1,q2,q3]) rfl ⟨?_,?_⟩
      ·rw [HTT.out,HF.out]
       exact ⟨q,rfl⟩
      ·exact set4_below (HB1.out.trans (HX9.out.mono (by omega))) (Nat.le_refl _) _ _ _ _
   rw [if_neg e4] at hrun
   have hptt:=(pt_tells s (by omega) p (by omega) hlt).2
   have hrp:=rn_pt s (by omega) p (by omega) hlt
   rw [← HRN.out] at hrp
   obtain ⟨⟨pc,pn⟩,hP⟩:∃ P,P = ptS s p:=⟨_,rfl⟩
   rw [← hP] at hrun hptt hrp
   have hptt:pn = 0 ∨ 1 ≤ pn ∧ pn ≤ 4 ∧ p + pn ≤ (s.size:Int):=hptt
   clear hP
   by_cases hz:pn = 0
   ·rw [if_pos (show (pc,pn).2 = 0 from hz)] at hrun
    exact absurd (congrArg Prod.snd hrun) (by simp)
   rw [if_neg (show ¬ (pc,pn).2 = 0 from hz)] at hrun
   obtain ⟨rfl,rfl⟩:=Prod.mk.inj (hrp hz)
   have hne4:cd ≠ 10 ∧ cd ≠ 13 ∧ cd ≠ 34 ∧ cd ≠ 92:=by
    by_cases hb:c0 < 128
    ·have:=(Prod.mk.inj (hcd hb)).1;omega
    ·have:128 ≤ cd:=hrb.2.2.2.2.2 (by omega)
     omega
   have hcd0:0 ≤ cd:=hrb.1
   clear hcd hrb hrp hcr e1 e2 e4
   have b1:(cd != 10) = true:=by simp;omega
   have b2:(cd != 13) = true:=by simp;omega
   have b3:(cd != 34) = true:=by simp;omega
   have b4:(cd == 92) = false:=by simp;omega
   cases hsr:isSrc cd with
   | false=>
    rw [if_pos (show isSrc (cd,n).1 = false from hsr)] at hrun
    have hfin:R = none:=by injection hrun with h;exact h.symm
    have HF:Aside0 (R = none):=⟨hfin⟩
    clear hfin
    have hs4:cd ≠ 9 ∧ cd < 32:=by
     unfold isSrc at hsr
     simp at hsr
     omega
    have b5:decide (cd < 32) = true:=decide_eq_true hs4.2
    have b6:(cd != 9) = true:=by simp;omega
    clear hrun hsr hs4 hne4 hptt hz
    go_wp2_with fail
    refine (PFnReadString.synErr_any s g (some ⟨b,0,none⟩) c r _ _ (PFnReadString.old_cell (HB1.out.trans (HX2.out.mono (by omega))) HG.out) HS2.out.cells HS2.out.le hs (by omega) (by omega)).mono ?_
    rintro e w9 ⟨⟨q,rfl⟩,hb9⟩
    have hX9:Below (w.heap.size + 1) W1 w9:=HX2.out.trans (hb9.mono (by have:=HX2.out.size;have:=HZ1.out;omega))
    have e0:w9.heap[w.heap.size]? = some (.cells #[.int .i64 0,.int .i64 0,.int .i64 0,.string ⟨#[]⟩] 58 (0,0)):=(hX9.block _ (by omega)).trans HE1.out
    have HX9:=Aside0.mk hX9
    clear hX9 hb9
    have d0:=(blk_cell e0 0).trans rfl
    have d1:=(blk_cell e0 1).trans rfl
    have d2:=(blk_cell e0 2).trans rfl
    have d3:=(blk_cell e0 3).trans rfl
    have f0:=fun j=>blk_frozen e0 j
    have E0:=Aside0.mk e0
    clear e0
    go_wp2_with fail
    obtain ⟨q0,q1,q2,q3⟩:=res4 E0.out (.int .i64 0) (.int .i64 0) (.int .i64 0) (.string ⟨#[]⟩)
    refine bodyPost_ret (v:=.tuple #[tk 0 0 0 ⟨#[]⟩,.iface 182 (.pointer (some ⟨q,0,none⟩))]) (by simp [results,Tryz.results57,go_sem,q0,q1,q2,q3]) rfl ⟨?_,?_⟩
    ·rw [HTT.out,HF.out]
     exact ⟨q,rfl⟩
    ·exact set4_below (HB1.out.trans (HX9.out.mono (by omega))) (Nat.le_refl _) _ _ _ _
   | true=>
    rw [if_neg (show ¬ isSrc (cd,n).1 = false by rw [show isSrc (cd,n).1 = true from hsr];simp)] at hrun
    have hbig:decide (65535 < cd) = false:=by
     cases hd:decide (65535 < cd) with
     | false=>rfl
     | true=>
      have hd':(false || decide (65535 < (cd,n).1)) = true:=hd
      rw [hd'] at hrun
      have:=txt_mono s k (p + (cd,n).2) (o ++ s.extract p.toNat (p + (cd,n).2).toNat)
      rw [hrun] at this
      cases this
    rw [show (false || decide (65535 < (cd,n).1)) = false from hbig] at hrun
    have hrun:txt s k (p + n) (o ++ s.extract p.toNat (p + n).toNat) false = (R,false):=hrun
    have hs5:cd = 9 ∨ 32 ≤ cd:=by
     unfold isSrc at hsr
     simp at hsr
     omega
    have hn4:1 ≤ n ∧ n ≤ 4 ∧ p + n ≤ (s.size:Int):=by omega
    obtain ⟨hn1,hn2,hn3⟩:=hn4
    have HRUN:=Aside0.mk hrun
    have HNE:=Aside0.mk hne4
    clear hrun hsr hbig hne4 hptt hz
    rcases hs5 with rfl | hs5
    ·go_wp2_with fail
     go_roundg k
     case measure=>omega
     case rel=>
      refine ⟨p + n,r + 1,ch,bs,rfl,rfl,rfl,⟨by omega,by omega,by omega,by omega,by omega,by have:=HA.out.2.2.2.2.2.1;omega,by have:=HA.out.2.2.2.2.2.2.1;omega,?_,HI2.out,HX2.out⟩⟩
      have:=HRUN.out
      rw [HO.out] at this
      rw [← ext_app s ch.toNat p.toNat (p + n).toNat (by omega) (by omega) (by omega),← List.append_assoc]
      have he:(⟨(bs ++ (s.extract ch.toNat p.toNat).data.toList ++ (s.extract p.toNat (p + n).toNat).data.toList).toArray⟩:ByteArray) = ⟨(bs ++ (s.extract ch.toNat p.toNat).data.toList).toArray⟩ ++ s.extract p.toNat (p + n).toNat:=by
       apply ByteArray.ext;simp
      rw [he]
      exact this
    ·have b5:decide (cd < 32) = false:=decide_eq_false (by omega)
     go_wp2_with fail
     go_roundg k
     case measure=>omega
     case rel=>
      refine ⟨p + n,r + 1,ch,bs,rfl,rfl,rfl,⟨by omega,by omega,by omega,by omega,by omega,by have:=HA.out.2.2.2.2.2.1;omega,by have:=HA.out.2.2.2.2.2.2.1;omega,?_,HI2.out,HX2.out⟩⟩
      have:=HRUN.out
      rw [HO.out] at this
      rw [← ext_app s ch.toNat p.toNat (p + n).toNat (by omega) (by omega) (by omega),← List.append_assoc]
      have he:(⟨(bs ++ (s.extract ch.toNat p.toNat).data.toList ++ (s.extract p.toNat (p + n).toNat).data.toList).toArray⟩:ByteArray) = ⟨(bs ++ (s.extract ch.toNat p.toNat).data.toList).toArray⟩ ++ s.extract p.toNat (p + n).toNat:=by
       apply ByteArray.ext;simp
      rw [he]
      exact this
  ·have hltb:decide (p < (s.size:Int)) = false:=decide_eq_false hlt
   have hfin:R = none:=by
    have hrun:=HA.out.2.2.2.2.2.2.2.1
    cases gk with
    | zero=>injection hrun with h;exact h.symm
    | succ k=>rw [txt,if_pos (by omega)] at hrun;injection hrun with h;exact h.symm
   have HF:Aside0 (R = none):=⟨hfin⟩
   clear hfin
   have hcdm:=rn_eof s p (by omega)
   rw [← HRN.out] at hcdm
   obtain ⟨rfl,rfl⟩:=Prod.mk.inj hcdm
   clear hcdm
   go_wp2_with fail
   refine (PFnReadString.synErr_any s g (some ⟨b,0,none⟩) c r _ _ (PFnReadString.old_cell (HB1.out.trans (HX2.out.mono (by omega))) HG.out) HS2.out.cells HS2.out.le hs (by omega) (by omega)).mono ?_
   rintro e w9 ⟨⟨q,rfl⟩,hb9⟩
   have hX9:Below (w.heap.size + 1) W1 w9:=HX2.out.trans (hb9.mono (by have:=HX2.out.size;have:=HZ1.out;omega))
   have e0:w9.heap[w.heap.size]? = some (.cells #[.int .i64 0,.int .i64 0,.int .i64 0,.string ⟨#[]⟩] 58 (0,0)):=(hX9.block _ (by omega)).trans HE1.out
   have HX9:=Aside0.mk hX9
   clear hX9 hb9
   have d0:=(blk_cell e0 0).trans rfl
   have d1:=(blk_cell e0 1).trans rfl
   have d2:=(blk_cell e0 2).trans rfl
   have d3:=(blk_cell e0 3).trans rfl
   have f0:=fun j=>blk_frozen e0 j
   have E0:=Aside0.mk e0
   clear e0
   go_wp2_with fail
   obtain ⟨q0,q1,q2,q3⟩:=res4 E0.out (.int .i64 0) (.int .i64 0) (.int .i64 0) (.string ⟨#[]⟩)
   refine bodyPost_ret (v:=.tuple #[tk 0 0 0 ⟨#[]⟩,.iface 182 (.pointer (some ⟨q,0,none⟩))]) (by simp [results,Tryz.results57,go_sem,q0,q1,q2,q3]) rfl ⟨?_,?_⟩
   ·rw [HTT.out,HF.out]
    exact ⟨q,rfl⟩
   ·exact set4_below (HB1.out.trans (HX9.out.mono (by omega))) (Nat.le_refl _) _ _ _ _
end Go.Proofs.YtbobbognjmofdaaGreatDoor.Lex
end
end
