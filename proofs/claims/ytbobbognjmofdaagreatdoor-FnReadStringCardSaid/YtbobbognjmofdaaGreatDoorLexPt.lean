/-
  Code points: what the reference's Point tells of a place in a text, and what the model's decoding of UTF-8 tells there. Plain facts.
-/
import Derived.Test.YtbobbognjmofdaaGreatDoorLexText
import Derived.Lib.DecodeN
namespace Go.Proofs.YtbobbognjmofdaaGreatDoor.Lex
open Go.RowKit Go.Proofs.YtbobbognjmofdaaGreatDoorW.PrintWords Go.Proofs.YtbobbognjmofdaaGreatDoorW.PrintLast Go.Proofs.YtbobbognjmofdaaGreatDoorW.PrintMore
open Go.Proofs.YtbobbognjmofdaaGreatDoor.Ptext
set_option linter.unusedVariables false
set_option linter.unusedSimpArgs false
theorem wsm {x : Int} (h : -1000000000 ≤ x) (h' : x ≤ 1000000000) : wrap64 x = x := by unfold wrap64; omega
theorem wrap_bt (s : ByteArray) (i : Int) : wrap64 (bt s i) = bt s i := by
  have := bt_range s i
  exact wsm (by omega) (by omega)
theorem l0_go (s : ByteArray) (hs : s.size ≤ 100000) (k i n j : Nat) (x4 x7 : Int) (hn : n ≤ 4) (hi : i + n ≤ s.size) (hj : j < i + n) (h0 : 0 ≤ x4) (h1 : x4 ≤ 1000000) :
    spec_Point.l0 (k + 1) s i x4 n x7 j = if bt s j < 128 ∨ bt s j > 191 then some (0, 0) else spec_Point.l0 k s i (x4 * 64 + bt s j - 128) n x7 ((j + 1 : Nat) : Int) := by
  have hb := bt_range s j
  simp only [spec_Point.l0, wrap_bt]
  rw [wsm (x := (i : Int) + n) (by omega) (by omega), if_pos (by omega), if_pos (by omega), if_pos (by omega)]
  by_cases h2 : bt s j < 128
  · rw [if_pos h2, if_pos (.inl h2)]
  · by_cases h3 : bt s j > 191
    · rw [if_neg h2, if_pos h3, if_pos (.inr h3)]
    · rw [if_neg h2, if_neg h3, if_neg (by omega), wsm (x := x4 * 64) (by omega) (by omega), wsm (x := x4 * 64 + bt s j) (by omega) (by omega), wsm (x := x4 * 64 + bt s j - 128) (by omega) (by omega), wsm (x := (j : Int) + 1) (by omega) (by omega)]
      rfl
theorem l0_end (s : ByteArray) (hs : s.size ≤ 100000) (k i n j : Nat) (x4 x7 : Int) (hn : n ≤ 4) (hi : i + n ≤ s.size) (hj : j = i + n) :
    spec_Point.l0 (k + 1) s i x4 n x7 j = if x4 < x7 ∨ x4 > 1114111 ∨ 55296 ≤ x4 ∧ x4 < 57344 then some (0, 0) else some (x4, (n : Int)) := by
  subst hj
  simp only [spec_Point.l0]
  rw [wsm (x := (i : Int) + n) (by omega) (by omega), if_neg (by omega)]
  (repeat' split) <;> first | rfl | (exfalso; omega)
/-- The code point of up to four bytes, and how many bytes it has. -/
def pv (n b0 b1 b2 b3 : Int) : Int × Int :=
  if b0 < 128 then (b0, 1)
  else if 194 ≤ b0 ∧ b0 < 224 ∧ 2 ≤ n ∧ (128 ≤ b1 ∧ b1 ≤ 191) then ((b0 - 192) * 64 + b1 - 128, 2)
  else if 224 ≤ b0 ∧ b0 < 240 ∧ 3 ≤ n ∧ (128 ≤ b1 ∧ b1 ≤ 191) ∧ (128 ≤ b2 ∧ b2 ≤ 191) ∧ ¬ (((b0 - 224) * 64 + b1 - 128) * 64 + b2 - 128 < 2048 ∨ 55296 ≤ ((b0 - 224) * 64 + b1 - 128) * 64 + b2 - 128 ∧ ((b0 - 224) * 64 + b1 - 128) * 64 + b2 - 128 < 57344) then (((b0 - 224) * 64 + b1 - 128) * 64 + b2 - 128, 3)
  else if 240 ≤ b0 ∧ b0 < 245 ∧ 4 ≤ n ∧ (128 ≤ b1 ∧ b1 ≤ 191) ∧ (128 ≤ b2 ∧ b2 ≤ 191) ∧ (128 ≤ b3 ∧ b3 ≤ 191) ∧ ¬ ((((b0 - 240) * 64 + b1 - 128) * 64 + b2 - 128) * 64 + b3 - 128 < 65536 ∨ (((b0 - 240) * 64 + b1 - 128) * 64 + b2 - 128) * 64 + b3 - 128 > 1114111) then ((((b0 - 240) * 64 + b1 - 128) * 64 + b2 - 128) * 64 + b3 - 128, 4)
  else (0, 0)
theorem j2_zero (s : ByteArray) (k i : Nat) (x4 x7 : Int) : spec_Point.j2 (k + 2) s i x4 0 x7 = some (0, 0) := by simp [spec_Point.j2, spec_Point.j3]
theorem j2_go (s : ByteArray) (hs : s.size ≤ 100000) (k i n : Nat) (x4 x7 : Int) (hi : i < s.size) (hn0 : n ≠ 0) (hn : n ≤ 4) :
    spec_Point.j2 (k + 2) s i x4 n x7 = if i + n > s.size then some (0, 0) else spec_Point.l0 k s i x4 n x7 ((i + 1 : Nat) : Int) := by
  simp only [spec_Point.j2, spec_Point.j3]
  rw [if_neg (by omega), wsm (x := (i : Int) + n) (by omega) (by omega), wsm (x := (i : Int) + 1) (by omega) (by omega)]
  by_cases h : i + n > s.size
  · rw [if_pos (by simp; omega), if_pos h]
  · rw [if_neg (by simp; omega), if_neg h]
    rfl
set_option maxHeartbeats 1000000 in
theorem point_eq (s : ByteArray) (hs : s.size ≤ 100000) (i : Nat) (hi : i < s.size) :
    spec_Point.f 12 s i = some (pv ((s.size - i : Nat) : Int) (bt s i) (bt s ((i + 1 : Nat) : Int)) (bt s ((i + 2 : Nat) : Int)) (bt s ((i + 3 : Nat) : Int))) := by
  have r0 := bt_range s i
  have r1 := bt_range s ((i + 1 : Nat) : Int)
  have r2 := bt_range s ((i + 2 : Nat) : Int)
  have r3 := bt_range s ((i + 3 : Nat) : Int)
  simp only [spec_Point.f, wrap_bt]
  rw [if_pos (by omega), if_pos (by omega)]
  by_cases c0 : bt s i < 128
  · rw [if_pos c0]; unfold pv; rw [if_pos c0]
  rw [if_neg c0]
  have hpv : ∀ (n : Nat), n = s.size - i → True := fun _ _ => trivial
  by_cases c1 : 194 ≤ bt s i ∧ bt s i < 224
  · rw [if_pos (by omega), decide_eq_true (by omega), spec_Point.j0, if_pos rfl, wsm (by omega) (by omega)]
    have := j2_go s hs 9 i 2 (bt s i - 192) 128 hi (by omega) (by omega)
    rw [show ((2 : Nat) : Int) = 2 from rfl] at this
    rw [this]
    unfold pv
    rw [if_neg c0]
    by_cases hn : i + 2 > s.size
    · rw [if_pos hn, if_neg (by omega), if_neg (by omega), if_neg (by omega)]
    rw [if_neg hn]
    have e1 := l0_go s hs 8 i 2 (i + 1) (bt s i - 192) 128 (by omega) (by omega) (by omega) (by omega) (by omega)
    rw [show ((2 : Nat) : Int) = 2 from rfl] at e1
    rw [e1]
    by_cases hb1 : bt s ((i + 1 : Nat) : Int) < 128 ∨ bt s ((i + 1 : Nat) : Int) > 191
    · rw [if_pos hb1, if_neg (by omega), if_neg (by omega), if_neg (by omega)]
    rw [if_neg hb1]
    have e2 := l0_end s hs 7 i 2 (i + 1 + 1) ((bt s i - 192) * 64 + bt s ((i + 1 : Nat) : Int) - 128) 128 (by omega) (by omega) (by omega)
    rw [show ((2 : Nat) : Int) = 2 from rfl] at e2
    rw [e2, if_neg (by omega), if_pos (by omega)]
  by_cases c2 : 224 ≤ bt s i ∧ bt s i < 240
  · have e0 : spec_Point.j0 12 s i 0 0 (bt s i) 0 false = spec_Point.j2 10 s i (bt s i - 224) 3 2048 := by
      rw [spec_Point.j0, if_neg (by simp), if_pos (by omega), decide_eq_true (by omega), spec_Point.j1, if_pos rfl, wsm (by omega) (by omega)]
    rw [if_pos (by omega), decide_eq_false (by omega), e0]
    have := j2_go s hs 8 i 3 (bt s i - 224) 2048 hi (by omega) (by omega)
    rw [show ((3 : Nat) : Int) = 3 from rfl] at this
    unfold pv
    rw [if_neg c0, if_neg (by omega), this]
    by_cases hn : i + 3 > s.size
    · rw [if_pos hn, if_neg (by omega), if_neg (by omega)]
    rw [if_neg hn]
    have e1 := l0_go s hs 7 i 3 (i + 1) (bt s i - 224) 2048 (by omega) (by omega) (by omega) (by omega) (by omega)
    rw [show ((3 : Nat) : Int) = 3 from rfl] at e1
    rw [e1]
    by_cases hb1 : bt s ((i + 1 : Nat) : Int) < 128 ∨ bt s ((i + 1 : Nat) : Int) > 191
    · rw [if_pos hb1, if_neg (by omega), if_neg (by omega)]
    rw [if_neg hb1]
    have e2 := l0_go s hs 6 i 3 (i + 1 + 1) ((bt s i - 224) * 64 + bt s ((i + 1 : Nat) : Int) - 128) 2048 (by omega) (by omega) (by omega) (by omega) (by omega)
    rw [show ((3 : Nat) : Int) = 3 from rfl, show i + 1 + 1 = i + 2 from rfl] at e2
    rw [show i + 1 + 1 = i + 2 from rfl, e2]
    by_cases hb2 : bt s ((i + 2 : Nat) : Int) < 128 ∨ bt s ((i + 2 : Nat) : Int) > 191
    · rw [if_pos hb2, if_neg (by omega), if_neg (by omega)]
    rw [if_neg hb2]
    have e3 := l0_end s hs 5 i 3 (i + 2 + 1) (((bt s i - 224) * 64 + bt s ((i + 1 : Nat) : Int) - 128) * 64 + bt s ((i + 2 : Nat) : Int) - 128) 2048 (by omega) (by omega) (by omega)
    rw [show ((3 : Nat) : Int) = 3 from rfl] at e3
    rw [e3]
    by_cases hv : ((bt s i - 224) * 64 + bt s ((i + 1 : Nat) : Int) - 128) * 64 + bt s ((i + 2 : Nat) : Int) - 128 < 2048 ∨ 55296 ≤ ((bt s i - 224) * 64 + bt s ((i + 1 : Nat) : Int) - 128) * 64 + bt s ((i + 2 : Nat) : Int) - 128 ∧ ((bt s i - 224) * 64 + bt s ((i + 1 : Nat) : Int) - 128) * 64 + bt s ((i + 2 : Nat) : Int) - 128 < 57344
    · rw [if_pos (by omega), if_neg (by omega), if_neg (by omega)]
    · rw [if_neg (by omega), if_pos (by omega)]
  by_cases c3 : 240 ≤ bt s i ∧ bt s i < 245
  · have e0 : spec_Point.j0 12 s i 0 0 (bt s i) 0 false = spec_Point.j2 10 s i (bt s i - 240) 4 65536 := by
      rw [spec_Point.j0, if_neg (by simp), if_pos (by omega), decide_eq_false (by omega), spec_Point.j1, if_neg (by simp), if_pos (by omega), if_pos (by omega), wsm (by omega) (by omega)]
    rw [if_pos (by omega), decide_eq_false (by omega), e0]
    have := j2_go s hs 8 i 4 (bt s i - 240) 65536 hi (by omega) (by omega)
    rw [show ((4 : Nat) : Int) = 4 from rfl] at this
    unfold pv
    rw [if_neg c0, if_neg (by omega), if_neg (by omega), this]
    by_cases hn : i + 4 > s.size
    · rw [if_pos hn, if_neg (by omega)]
    rw [if_neg hn]
    have e1 := l0_go s hs 7 i 4 (i + 1) (bt s i - 240) 65536 (by omega) (by omega) (by omega) (by omega) (by omega)
    rw [show ((4 : Nat) : Int) = 4 from rfl] at e1
    rw [e1]
    by_cases hb1 : bt s ((i + 1 : Nat) : Int) < 128 ∨ bt s ((i + 1 : Nat) : Int) > 191
    · rw [if_pos hb1, if_neg (by omega)]
    rw [if_neg hb1]
    have e2 := l0_go s hs 6 i 4 (i + 1 + 1) ((bt s i - 240) * 64 + bt s ((i + 1 : Nat) : Int) - 128) 65536 (by omega) (by omega) (by omega) (by omega) (by omega)
    rw [show ((4 : Nat) : Int) = 4 from rfl, show i + 1 + 1 = i + 2 from rfl] at e2
    rw [show i + 1 + 1 = i + 2 from rfl, e2]
    by_cases hb2 : bt s ((i + 2 : Nat) : Int) < 128 ∨ bt s ((i + 2 : Nat) : Int) > 191
    · rw [if_pos hb2, if_neg (by omega)]
    rw [if_neg hb2]
    have e3 := l0_go s hs 5 i 4 (i + 2 + 1) (((bt s i - 240) * 64 + bt s ((i + 1 : Nat) : Int) - 128) * 64 + bt s ((i + 2 : Nat) : Int) - 128) 65536 (by omega) (by omega) (by omega) (by omega) (by omega)
    rw [show ((4 : Nat) : Int) = 4 from rfl, show i + 2 + 1 = i + 3 from rfl] at e3
    rw [show i + 2 + 1 = i + 3 from rfl, e3]
    by_cases hb3 : bt s ((i + 3 : Nat) : Int) < 128 ∨ bt s ((i + 3 : Nat) : Int) > 191
    · rw [if_pos hb3, if_neg (by omega)]
    rw [if_neg hb3]
    have e4 := l0_end s hs 4 i 4 (i + 3 + 1) ((((bt s i - 240) * 64 + bt s ((i + 1 : Nat) : Int) - 128) * 64 + bt s ((i + 2 : Nat) : Int) - 128) * 64 + bt s ((i + 3 : Nat) : Int) - 128) 65536 (by omega) (by omega) (by omega)
    rw [show ((4 : Nat) : Int) = 4 from rfl] at e4
    rw [e4]
    by_cases hv : (((bt s i - 240) * 64 + bt s ((i + 1 : Nat) : Int) - 128) * 64 + bt s ((i + 2 : Nat) : Int) - 128) * 64 + bt s ((i + 3 : Nat) : Int) - 128 < 65536 ∨ (((bt s i - 240) * 64 + bt s ((i + 1 : Nat) : Int) - 128) * 64 + bt s ((i + 2 : Nat) : Int) - 128) * 64 + bt s ((i + 3 : Nat) : Int) - 128 > 1114111
    · rw [if_pos (by omega), if_neg (by omega)]
    · rw [if_neg (by omega), if_pos (by omega)]
  · have e0 : spec_Point.j0 12 s i 0 0 (bt s i) 0 false = some (0, 0) := by
      rw [spec_Point.j0, if_neg (by simp)]
      by_cases c4 : bt s i ≥ 224
      · rw [if_pos c4, decide_eq_false (by omega), spec_Point.j1, if_neg (by simp), if_pos (by omega), if_neg (by omega)]
        exact j2_zero s 8 i 0 0
      · rw [if_neg c4, spec_Point.j1, if_neg (by simp), if_neg (by omega)]
        exact j2_zero s 8 i 0 0
    have e9 : pv ((s.size - i : Nat) : Int) (bt s i) (bt s ((i + 1 : Nat) : Int)) (bt s ((i + 2 : Nat) : Int)) (bt s ((i + 3 : Nat) : Int)) = (0, 0) := by
      unfold pv
      rw [if_neg c0, if_neg (by omega), if_neg (by omega), if_neg (by omega)]
    rw [e9]
    by_cases c5 : bt s i ≥ 194
    · rw [if_pos c5, decide_eq_false (by omega), e0]
    · rw [if_neg c5, e0]
theorem bt_get (s : ByteArray) (i : Nat) : bt s i = ((s.get! i).toNat : Int) := by
  unfold bt
  rw [Int.toNat_natCast]
  by_cases h : i < s.size
  · rw [dif_pos h]
    show ((s[i]'h).toNat : Int) = _
    simp only [ByteArray.get!]
    rw [getElem!_pos s.data i (by exact h)]
    rfl
  · rw [dif_neg h]
    simp only [ByteArray.get!]
    rw [getElem!_neg s.data i (by exact h)]
    rfl
set_option maxHeartbeats 1000000 in
theorem pv_decode (n b0 b1 b2 b3 : Nat) (h0 : b0 < 256) (h1 : b1 < 256) (h2 : b2 < 256) (h3 : b3 < 256) (hn : (pv n b0 b1 b2 b3).2 ≠ 0) :
    pv n b0 b1 b2 b3 = (((Lib.decodeN n b0 b1 b2 b3).1 : Int), ((Lib.decodeN n b0 b1 b2 b3).2 : Int)) := by
  unfold pv at hn ⊢
  split
  · rename_i c0
    rw [Lib.decodeN, if_pos (by omega)]; rfl
  rename_i c0
  rw [if_neg c0] at hn
  split
  · rename_i c1
    rw [Lib.decodeN, if_neg (by omega), if_pos (by omega), if_pos (by omega)]
    refine Prod.ext ?_ rfl
    show _ = ((b0 % 32 * 64 + b1 % 64 : Nat) : Int)
    show ((b0 : Int) - 192) * 64 + b1 - 128 = _
    omega
  rename_i c1
  rw [if_neg c1] at hn
  split
  · rename_i c2
    rw [Lib.decodeN, if_neg (by omega), if_neg (by omega), if_pos (by omega), if_pos (by omega)]
    refine Prod.ext ?_ rfl
    show (((b0 : Int) - 224) * 64 + b1 - 128) * 64 + b2 - 128 = ((b0 % 16 * 4096 + b1 % 64 * 64 + b2 % 64 : Nat) : Int)
    omega
  rename_i c2
  rw [if_neg c2] at hn
  split
  · rename_i c3
    rw [Lib.decodeN, if_neg (by omega), if_neg (by omega), if_neg (by omega), if_pos (by omega), if_pos (by omega)]
    refine Prod.ext ?_ rfl
    show ((((b0 : Int) - 240) * 64 + b1 - 128) * 64 + b2 - 128) * 64 + b3 - 128 = ((b0 % 8 * 262144 + b1 % 64 * 4096 + b2 % 64 * 64 + b3 % 64 : Nat) : Int)
    omega
  · rename_i c3
    rw [if_neg c3] at hn
    exact absurd rfl hn
theorem pv_range (n b0 b1 b2 b3 : Int) (hn : 1 ≤ n) (h0 : 0 ≤ b0) : (pv n b0 b1 b2 b3).2 = 0 ∨ 1 ≤ (pv n b0 b1 b2 b3).2 ∧ (pv n b0 b1 b2 b3).2 ≤ 4 ∧ (pv n b0 b1 b2 b3).2 ≤ n := by
  unfold pv
  (repeat' split) <;> first | exact .inl rfl | (refine .inr ?_; simp only []; omega)
/-- What runeAt tells of a place. -/
def rn (s : ByteArray) (p : Int) : Int × Int := if (s.size : Int) ≤ p then (-1, 65533) else (((Utf8.decode s p.toNat).1 : Int), ((Utf8.decode s p.toNat).2 : Int))
theorem get_lt (s : ByteArray) (i : Nat) : (s.get! i).toNat < 256 := (s.get! i).toNat_lt
theorem ptS_eq (s : ByteArray) (hs : s.size ≤ 100000) (p : Int) (h0 : 0 ≤ p) (hp : p < s.size) :
    ptS s p = pv ((s.size - p.toNat : Nat) : Int) ((s.get! p.toNat).toNat : Int) ((s.get! (p.toNat + 1)).toNat : Int) ((s.get! (p.toNat + 2)).toNat : Int) ((s.get! (p.toNat + 3)).toNat : Int) := by
  have h := point_eq s hs p.toNat (by omega)
  rw [bt_get, bt_get, bt_get, bt_get, show ((p.toNat : Nat) : Int) = p by omega] at h
  unfold ptS
  rw [h, Option.getD_some]
/-- Point answers at every place of a text. -/
theorem pt_tells (s : ByteArray) (hs : s.size ≤ 100000) (p : Int) (h0 : 0 ≤ p) (hp : p < s.size) :
    spec_Point.f 12 s p = some (ptS s p) ∧ ((ptS s p).2 = 0 ∨ 1 ≤ (ptS s p).2 ∧ (ptS s p).2 ≤ 4 ∧ p + (ptS s p).2 ≤ s.size) := by
  have h := point_eq s hs p.toNat (by omega)
  have hq := ptS_eq s hs p h0 hp
  rw [show ((p.toNat : Nat) : Int) = p by omega] at h
  refine ⟨?_, ?_⟩
  · unfold ptS; rw [h]; rfl
  · have := pv_range ((s.size - p.toNat : Nat) : Int) ((s.get! p.toNat).toNat : Int) ((s.get! (p.toNat + 1)).toNat : Int) ((s.get! (p.toNat + 2)).toNat : Int) ((s.get! (p.toNat + 3)).toNat : Int) (by omega) (by omega)
    rw [← hq] at this
    omega
theorem rn_pt (s : ByteArray) (hs : s.size ≤ 100000) (p : Int) (h0 : 0 ≤ p) (hp : p < s.size) (hn : (ptS s p).2 ≠ 0) : rn s p = ptS s p := by
  have hq := ptS_eq s hs p h0 hp
  rw [hq] at hn ⊢
  unfold rn
  rw [if_neg (by omega), Lib.decode_at]
  exact (pv_decode _ _ _ _ _ (get_lt _ _) (get_lt _ _) (get_lt _ _) (get_lt _ _) hn).symm
theorem rn_small (s : ByteArray) (p : Int) (h0 : 0 ≤ p) (hp : p < s.size) (hb : bt s p < 128) : rn s p = (bt s p, 1) := by
  have hg := bt_get s p.toNat
  rw [show ((p.toNat : Nat) : Int) = p by omega] at hg
  unfold rn
  rw [if_neg (by omega), Lib.decode_at, Lib.decodeN, if_pos (by omega), hg]; rfl
theorem decodeN_bounds (n b0 b1 b2 b3 : Nat) (h0 : b0 < 256) (hn : 1 ≤ n) : (Lib.decodeN n b0 b1 b2 b3).1 ≤ 1114111 ∧ 1 ≤ (Lib.decodeN n b0 b1 b2 b3).2 ∧ (Lib.decodeN n b0 b1 b2 b3).2 ≤ 4 ∧ (Lib.decodeN n b0 b1 b2 b3).2 ≤ n ∧ (128 ≤ b0 → 128 ≤ (Lib.decodeN n b0 b1 b2 b3).1) := by
  unfold Lib.decodeN
  (repeat' split) <;> (simp only []; omega)
theorem rn_bounds (s : ByteArray) (p : Int) (h0 : 0 ≤ p) (hp : p < s.size) : 0 ≤ (rn s p).1 ∧ (rn s p).1 ≤ 1114111 ∧ 1 ≤ (rn s p).2 ∧ (rn s p).2 ≤ 4 ∧ p + (rn s p).2 ≤ s.size ∧ (128 ≤ bt s p → 128 ≤ (rn s p).1) := by
  have hg := bt_get s p.toNat
  rw [show ((p.toNat : Nat) : Int) = p by omega] at hg
  have := decodeN_bounds (s.size - p.toNat) (s.get! p.toNat).toNat (s.get! (p.toNat + 1)).toNat (s.get! (p.toNat + 2)).toNat (s.get! (p.toNat + 3)).toNat (get_lt _ _) (by omega)
  rw [show rn s p = _ from if_neg (by omega), Lib.decode_at]
  obtain ⟨r, hr⟩ : ∃ r, r = Lib.decodeN (s.size - p.toNat) (s.get! p.toNat).toNat (s.get! (p.toNat + 1)).toNat (s.get! (p.toNat + 2)).toNat (s.get! (p.toNat + 3)).toNat := ⟨_, rfl⟩
  rw [← hr] at this ⊢
  obtain ⟨q1, q2, q3, q4, q5⟩ := this
  refine ⟨?_, ?_, ?_, ?_, ?_, ?_⟩
  · show (0 : Int) ≤ (r.1 : Int); omega
  · show (r.1 : Int) ≤ 1114111; omega
  · show (1 : Int) ≤ (r.2 : Int); omega
  · show (r.2 : Int) ≤ 4; omega
  · show p + (r.2 : Int) ≤ s.size; omega
  · intro hb
    have := q5 (by omega)
    show (128 : Int) ≤ (r.1 : Int); omega
theorem rn_eof (s : ByteArray) (p : Int) (hp : (s.size : Int) ≤ p) : rn s p = (-1, 65533) := by unfold rn; rw [if_pos hp]
end Go.Proofs.YtbobbognjmofdaaGreatDoor.Lex
