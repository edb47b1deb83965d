import Derived.Test.YtbobbognjmofdaaGreatDoorK09
import Derived.Test.YtbobbognjmofdaaGreatDoorK10
import Derived.Test.YtbobbognjmofdaaGreatDoorK11
import Derived.Lib.BufferOld
section
/-
  What the walk of the package's readString leans on: bytes written to a buffer, hexadecimal digits.
-/
namespace Go.Proofs.YtbobbognjmofdaaGreatDoor.Lex
open Go.RowKit Go.Proofs.YtbobbognjmofdaaGreatDoorW.PrintWords Go.Proofs.YtbobbognjmofdaaGreatDoorW.PrintLast Go.Proofs.YtbobbognjmofdaaGreatDoorW.PrintMore
open Go.Proofs.YtbobbognjmofdaaGreatDoor.Ptext
set_option linter.unusedVariables false
set_option linter.unusedSimpArgs false
/-- A token as the package has it. -/
abbrev tk (k st en : Int) (v : ByteArray) : Value := .agg #[.int .i64 k, .int .i64 st, .int .i64 en, .string v]
/-- What comes back: a token and no error, or no token and an error. -/
def Told (e : Ending) (r : Option (Int × Int × Int × ByteArray)) : Prop :=
  match r with
  | some q => e = .returned (.tuple #[tk q.1 q.2.1 q.2.2.1 q.2.2.2, .nilIface])
  | none => ∃ q, e = .returned (.tuple #[tk 0 0 0 ⟨#[]⟩, .iface 182 (.pointer (some ⟨q, 0, none⟩))])
def strTok (start : Int) (R : Option (Int × ByteArray)) : Option (Int × Int × Int × ByteArray) := R.map fun q => (18, start, q.1, q.2)
theorem res4 {W : World} {g T : Nat} {a0 a1 a2 a3 : Value} (h : W.heap[g]? = some (.cells #[a0, a1, a2, a3] T (0, 0))) (x0 x1 x2 x3 : Value) :
    ((((W.setCell ⟨g, 0, none⟩ x0).setCell ⟨g, 1, none⟩ x1).setCell ⟨g, 2, none⟩ x2).setCell ⟨g, 3, none⟩ x3).cell? ⟨g, 0, none⟩ = some x0 ∧ ((((W.setCell ⟨g, 0, none⟩ x0).setCell ⟨g, 1, none⟩ x1).setCell ⟨g, 2, none⟩ x2).setCell ⟨g, 3, none⟩ x3).cell? ⟨g, 1, none⟩ = some x1 ∧
    ((((W.setCell ⟨g, 0, none⟩ x0).setCell ⟨g, 1, none⟩ x1).setCell ⟨g, 2, none⟩ x2).setCell ⟨g, 3, none⟩ x3).cell? ⟨g, 2, none⟩ = some x2 ∧ ((((W.setCell ⟨g, 0, none⟩ x0).setCell ⟨g, 1, none⟩ x1).setCell ⟨g, 2, none⟩ x2).setCell ⟨g, 3, none⟩ x3).cell? ⟨g, 3, none⟩ = some x3 := by
  have e4 := blk_set (blk_set (blk_set (blk_set h 0 x0) 1 x1) 2 x2) 3 x3
  exact ⟨(blk_cell e4 0).trans rfl, (blk_cell e4 1).trans rfl, (blk_cell e4 2).trans rfl, (blk_cell e4 3).trans rfl⟩
theorem set4_below {base g : Nat} {W0 W : World} (h : Below base W0 W) (hg : base ≤ g) (x0 x1 x2 x3 : Value) :
    Below base W0 ((((W.setCell ⟨g, 0, none⟩ x0).setCell ⟨g, 1, none⟩ x1).setCell ⟨g, 2, none⟩ x2).setCell ⟨g, 3, none⟩ x3) :=
  (((h.setCell hg _).setCell hg _).setCell hg _).setCell hg _
theorem bytes_at (s : ByteArray) (j : Nat) (x : UInt8) (h : s.data.toList[j]? = some x) : j < s.size ∧ bt s j = (x.toNat : Int) := by
  obtain ⟨hl, he⟩ := List.getElem?_eq_some_iff.1 h
  rw [Array.length_toList] at hl
  refine ⟨hl, ?_⟩
  have hl' : j < s.size := hl
  unfold bt
  rw [Int.toNat_natCast, dif_pos hl', ← he]
  rfl
theorem or_neg (a b : Int) (h : -65536 ≤ a ∧ a < 0 ∨ -65536 ≤ b ∧ b < 0) : -65536 ≤ bits .or .i64 a b ∧ bits .or .i64 a b < 0 := by
  have key : bits .or .i64 a b = IntKind.i64.wrap (((BitVec.ofInt 64 a ||| BitVec.ofInt 64 b).toNat : Nat) : Int) := rfl
  have hlt := (BitVec.ofInt 64 a ||| BitVec.ofInt 64 b).isLt
  rw [key, IntKind.wrap_i64]
  have hge : 18446744073709551616 - 65536 ≤ (BitVec.ofInt 64 a ||| BitVec.ofInt 64 b).toNat := by
    rw [BitVec.toNat_or]
    rcases h with ⟨h1, h2⟩ | ⟨h1, h2⟩
    · refine Nat.le_trans ?_ Nat.left_le_or
      rw [BitVec.toNat_ofInt]; omega
    · refine Nat.le_trans ?_ Nat.right_le_or
      rw [BitVec.toNat_ofInt]; omega
  omega
theorem or_add (i : Nat) (x y : Int) (hi : i ≤ 20) (hx0 : 0 ≤ x) (hx : x % 2 ^ i = 0) (hx1 : x < 1048576) (hy0 : 0 ≤ y) (hy : y < 2 ^ i) (hy1 : y < 1048576) : bits .or .i64 x y = x + y :=
  bits_join .i64 20 (by decide) (fun n h0 h1 => by
    have h1 : n < 1048576 := h1
    rw [IntKind.wrap_i64]; omega) i x y hx0 hx hx1 hy0 hy hy1
theorem chex_tells (c : Int) (h0 : 0 ≤ c) (h1 : c ≤ 255) : PFnReadString.lexer_char2hex.f 3 c = some (hexv c) := by
  unfold PFnReadString.lexer_char2hex.f hexv
  simp only [PFnReadString.lexer_char2hex.j0, PFnReadString.lexer_char2hex.j1, decide_eq_true_eq]
  have e : wrap64 c = c := wsm (by omega) (by omega)
  rw [e]
  (repeat' split) <;> first | omega | (simp_all; done) | (rw [wsm (by omega) (by omega)]; done) | (congr 1; rw [wsm (by omega) (by omega)]) | (exfalso; simp_all; omega)
theorem uni_tells (a b c d : Int) (ha : 0 ≤ a ∧ a ≤ 255) (hb : 0 ≤ b ∧ b ≤ 255) (hc : 0 ≤ c ∧ c ≤ 255) (hd : 0 ≤ d ∧ d ≤ 255) :
    ∃ r, PFnReadString.lexer_uniCharCode.f 3 a b c d = some r ∧ -65536 ≤ r ∧ r ≤ 65535 ∧ (0 ≤ hexv a ∧ 0 ≤ hexv b ∧ 0 ≤ hexv c ∧ 0 ≤ hexv d → r = ((hexv a * 16 + hexv b) * 16 + hexv c) * 16 + hexv d) ∧ (hexv a < 0 ∨ hexv b < 0 ∨ hexv c < 0 ∨ hexv d < 0 → r < 0) := by
  unfold PFnReadString.lexer_uniCharCode.f
  rw [chex_tells a ha.1 ha.2, chex_tells b hb.1 hb.2, chex_tells c hc.1 hc.2, chex_tells d hd.1 hd.2]
  simp only [Option.bind_some]
  have ra := hexv_range a
  have rb := hexv_range b
  have rc := hexv_range c
  have rd := hexv_range d
  obtain ⟨x, hx⟩ : ∃ x, x = hexv a := ⟨_, rfl⟩
  obtain ⟨y, hy⟩ : ∃ y, y = hexv b := ⟨_, rfl⟩
  obtain ⟨z, hz⟩ : ∃ z, z = hexv c := ⟨_, rfl⟩
  obtain ⟨u, hu⟩ : ∃ u, u = hexv d := ⟨_, rfl⟩
  rw [← hx, ← hy, ← hz, ← hu]
  rw [← hx] at ra
  rw [← hy] at rb
  rw [← hz] at rc
  rw [← hu] at rd
  rw [wsm (x := x * 4096) (by omega) (by omega), wsm (x := y * 256) (by omega) (by omega), wsm (x := z * 16) (by omega) (by omega)]
  refine ⟨_, rfl, ?_⟩
  by_cases hn : x < 0 ∨ y < 0 ∨ z < 0 ∨ u < 0
  · have key : -65536 ≤ bits .or .i64 (bits .or .i64 (bits .or .i64 (x * 4096) (y * 256)) (z * 16)) u ∧ bits .or .i64 (bits .or .i64 (bits .or .i64 (x * 4096) (y * 256)) (z * 16)) u < 0 := by
      by_cases hu : u < 0
      · exact or_neg _ _ (.inr (by omega))
      · refine or_neg _ _ (.inl ?_)
        by_cases hz : z < 0
        · exact or_neg _ _ (.inr (by omega))
        · refine or_neg _ _ (.inl ?_)
          by_cases hy : y < 0
          · exact or_neg _ _ (.inr (by omega))
          · exact or_neg _ _ (.inl (by omega))
    obtain ⟨v, hv⟩ : ∃ v, v = bits .or .i64 (bits .or .i64 (bits .or .i64 (x * 4096) (y * 256)) (z * 16)) u := ⟨_, rfl⟩
    rw [← hv] at key ⊢
    have hw : wrap32 v = v := by unfold wrap32; omega
    rw [hw]
    omega
  · have k1 : bits .or .i64 (x * 4096) (y * 256) = x * 4096 + y * 256 := or_add 12 _ _ (by omega) (by omega) (by omega) (by omega) (by omega) (by omega) (by omega)
    have k2 : bits .or .i64 (x * 4096 + y * 256) (z * 16) = x * 4096 + y * 256 + z * 16 := or_add 8 _ _ (by omega) (by omega) (by omega) (by omega) (by omega) (by omega) (by omega)
    have k3 : bits .or .i64 (x * 4096 + y * 256 + z * 16) u = x * 4096 + y * 256 + z * 16 + u := or_add 4 _ _ (by omega) (by omega) (by omega) (by omega) (by omega) (by omega) (by omega)
    rw [k1, k2, k3]
    have hw : wrap32 (x * 4096 + y * 256 + z * 16 + u) = x * 4096 + y * 256 + z * 16 + u := by unfold wrap32; omega
    rw [hw]
    omega
theorem hexs4 (s : ByteArray) (q : Int) : hexs s 4 q 0 = if hexv (nx s q) < 0 then .error q else if hexv (nx s (q + 1)) < 0 then .error (q + 1) else if hexv (nx s (q + 2)) < 0 then .error (q + 2) else if hexv (nx s (q + 3)) < 0 then .error (q + 3) else .ok (((hexv (nx s q) * 16 + hexv (nx s (q + 1))) * 16 + hexv (nx s (q + 2))) * 16 + hexv (nx s (q + 3))) := by
  simp only [hexs, show q + 1 + 1 = q + 2 by omega, show q + 2 + 1 = q + 3 by omega]
  (repeat' split) <;> first | rfl | (congr 1; omega)
theorem enc_rune (n : Int) (h0 : 0 ≤ n) (h1 : n ≤ 65535) (h2 : ¬ (55296 ≤ n ∧ n < 57344)) : (Utf8.encode n).data.toList = Lib.encodeRune n := by
  obtain ⟨m, rfl⟩ := Int.eq_ofNat_of_zero_le h0
  have hv : Utf8.valid (m : Int) = true := by
    simp only [Utf8.valid]; simp; omega
  unfold Utf8.encode Lib.encodeRune Lib.encodeRuneZ
  simp only [hv, if_true, Int.toNat_natCast]
  by_cases c1 : m < 128
  · rw [if_pos c1, if_pos (show 0 ≤ (m : Int) ∧ (m : Int) ≤ 127 by omega)]
    simp
  rw [if_neg c1, if_neg (show ¬ (0 ≤ (m : Int) ∧ (m : Int) ≤ 127) by omega)]
  by_cases c2 : m < 2048
  · rw [if_pos c2, if_pos (show 128 ≤ (m : Int) ∧ (m : Int) ≤ 2047 by omega)]
    simp only [List.map_cons, List.map_nil]
    have e1 : (192 + (m : Int) / 64).toNat = 192 + m / 64 := by omega
    have e2 : (128 + (m : Int) % 64).toNat = 128 + m % 64 := by omega
    rw [e1, e2]
  rw [if_neg c2, if_neg (show ¬ (128 ≤ (m : Int) ∧ (m : Int) ≤ 2047) by omega), if_pos (show m < 65536 by omega), if_pos (show 2048 ≤ (m : Int) ∧ (m : Int) < 55296 ∨ 57343 < (m : Int) ∧ (m : Int) ≤ 65535 by omega)]
  simp only [List.map_cons, List.map_nil]
  have e1 : (224 + (m : Int) / 4096).toNat = 224 + m / 4096 := by omega
  have e2 : (128 + (m : Int) / 64 % 64).toNat = 128 + m / 64 % 64 := by omega
  have e3 : (128 + (m : Int) % 64).toNat = 128 + m % 64 := by omega
  rw [e1, e2, e3]
theorem ext_app (s : ByteArray) (a b c : Nat) (h1 : a ≤ b) (h2 : b ≤ c) (h3 : c ≤ s.size) : (s.extract a b).data.toList ++ (s.extract b c).data.toList = (s.extract a c).data.toList := by
  rw [ByteArray.data_extract, ByteArray.data_extract, ByteArray.data_extract, ← Array.toList_append, Array.extract_append_extract]
  rw [Nat.min_eq_left h1, Nat.max_eq_right h2]
theorem rn_nx (s : ByteArray) (q : Int) (h0 : 0 ≤ q) : (nx s q = 0 → (rn s q).1 ≤ 0) ∧ (0 < nx s q ∧ nx s q < 128 → rn s q = (nx s q, 1) ∧ q < s.size) ∧ (128 ≤ nx s q → 128 ≤ (rn s q).1) := by
  unfold nx
  by_cases h : q < (s.size : Int)
  · rw [if_pos h]
    refine ⟨fun e => ?_, fun e => ⟨rn_small s q h0 h e.2, h⟩, fun e => (rn_bounds s q h0 h).2.2.2.2.2 e⟩
    rw [rn_small s q h0 h (by omega), e]
    exact Int.le_refl _
  · rw [if_neg h, rn_eof s q (by omega)]
    exact ⟨fun _ => by decide, fun e => by omega, fun e => by omega⟩
/-- The code point that a short escape stands for. -/
def escRune (x : Int) : Int := if x = 98 then 8 else if x = 102 then 12 else if x = 110 then 10 else if x = 114 then 13 else if x = 116 then 9 else x
theorem esc_cases (x : Int) (t : ByteArray) (h : escText x = some t) : x = 34 ∨ x = 92 ∨ x = 47 ∨ x = 98 ∨ x = 102 ∨ x = 110 ∨ x = 114 ∨ x = 116 := by
  unfold escText at h
  (repeat' split at h) <;> first | omega | cases h
theorem esc_pos (x : Int) (t : ByteArray) (h : escText x = some t) : 0 < x ∧ x < 128 := by
  have := esc_cases x t h; omega
theorem esc_enc (x : Int) (t : ByteArray) (h : escText x = some t) : t.data.toList = Lib.encodeRune (escRune x) := by
  rcases esc_cases x t h with rfl | rfl | rfl | rfl | rfl | rfl | rfl | rfl
  all_goals
    have ht := Option.some.inj h
    rw [← ht]; rfl
theorem esc_none (x : Int) (h : escText x = none) : x ≠ 34 ∧ x ≠ 92 ∧ x ≠ 47 ∧ x ≠ 98 ∧ x ≠ 102 ∧ x ≠ 110 ∧ x ≠ 114 ∧ x ≠ 116 := by
  unfold escText at h
  (repeat' split at h) <;> first | (refine ⟨?_, ?_, ?_, ?_, ?_, ?_, ?_, ?_⟩ <;> assumption) | cases h
theorem encodeRune_len (r : Int) : (Lib.encodeRune r).length ≤ 4 := by
  unfold Lib.encodeRune Lib.encodeRuneZ
  (repeat' split) <;> simp
theorem app_text (a : List UInt8) (t : ByteArray) (l : List UInt8) (h : t.data.toList = l) : (⟨(a ++ l).toArray⟩ : ByteArray) = (⟨a.toArray⟩ : ByteArray) ++ t := by
  subst h
  apply ByteArray.ext; simp
theorem hexs_err (s : ByteArray) (q : Int) (h : hexv (nx s q) < 0 ∨ hexv (nx s (q + 1)) < 0 ∨ hexv (nx s (q + 2)) < 0 ∨ hexv (nx s (q + 3)) < 0) : ∃ e, hexs s 4 q 0 = .error e := by
  rw [hexs4]
  (repeat' split) <;> first | exact ⟨_, rfl⟩ | (exfalso; omega)
theorem quiet_uni (a b c d r : Int) (n : Nat) (w : World) (h : PFnReadString.lexer_uniCharCode.f 3 a b c d = some r) :
    Calls Tryz.prog 99 #[.int .i32 a, .int .i32 b, .int .i32 c, .int .i32 d] (w.drewN n) fun e w'' => e = .returned (.int .i32 r) ∧ ∃ m, w'' = w.drewN m := by
  refine (PFnReadString.lexer_uniCharCode.calls 3 a b c d r _ h).mono ?_
  rintro e w' ⟨he, ⟨m, rfl⟩⟩
  exact ⟨he, n + m, World.drewN_drewN ..⟩
theorem write_seg (s : ByteArray) (b c B gb cap : Nat) (ch p : Int) (bs : List UInt8) (w : World) (hS : Src w b c s) (hI : Lib.IsBuffer 179 5 B gb (Lib.byteCells bs) w) (hBw : B ≤ w.heap.size) (hb : b < B) (h0 : 0 ≤ ch) (h1 : ch ≤ p) (h2 : p ≤ s.size) (hs : s.size ≤ 2000) (hl : bs.length ≤ 100000) :
    Calls Tryz.prog 97 #[.pointer (some ⟨gb, 0, none⟩), .slice (some ⟨b, ch.toNat, none⟩) (p.toNat - ch.toNat) cap] w fun e w' => (∃ v, e = .returned v) ∧ Lib.IsBuffer 179 5 B gb (Lib.byteCells (bs ++ (s.extract ch.toNat p.toNat).data.toList)) w' ∧ Below B w w' := by
  have hsz : (s.extract ch.toNat p.toNat).size = p.toNat - ch.toNat := by rw [ByteArray.size_extract]; omega
  have hlen : (Lib.byteCells (s.extract ch.toNat p.toNat).data.toList).length = p.toNat - ch.toNat := by
    rw [Lib.byteCells_length, Array.length_toList]; exact hsz
  refine (Tryz.Buffer_Write_k B gb (Lib.byteCells bs) (Lib.byteCells (s.extract ch.toNat p.toNat).data.toList) ⟨b, ch.toNat, none⟩ (p.toNat - ch.toNat) cap w hI hBw (Lib.byteCells_one _) hlen hb ?_ (Lib.byteCells_one _) (by rw [Lib.byteCells_length]; omega)).mono ?_
  · intro j v hj
    rw [Lib.byteCells, List.getElem?_map] at hj
    cases hx : (s.extract ch.toNat p.toNat).data.toList[j]? with
    | none => rw [hx] at hj; cases hj
    | some x =>
      rw [hx] at hj
      have hv : Value.int .u8 (x.toNat : Int) = v := Option.some.inj hj
      obtain ⟨hjl, hjb⟩ := bytes_at _ j x hx
      rw [hsz] at hjl
      have hc := hS.cell ((ch.toNat + j : Nat) : Int) (by omega) (by omega)
      rw [Int.toNat_natCast] at hc
      have hbt : bt s ((ch.toNat + j : Nat) : Int) = bt (s.extract ch.toNat p.toNat) (j : Int) := by
        rw [bt_get, bt_get]
        simp only [ByteArray.get!, ByteArray.data_extract, getElem!_def, Array.getElem?_extract]
        have : s.size = s.data.size := rfl
        rw [if_pos (by omega)]
      rw [← hv, ← hjb, ← hbt, ← hc]
      congr 1
      show (⟨b, ch.toNat, none⟩ : Addr).add j = _
      unfold Addr.add
      split
      · rename_i h; subst h; rfl
      · rfl
  · rintro e w' ⟨rfl, hI', hb', _⟩
    rw [← Lib.byteCells_append] at hI'
    exact ⟨⟨_, rfl⟩, hI', hb'⟩
theorem write_rune (B gb : Nat) (r : Int) (bs : List UInt8) (w : World) (hI : Lib.IsBuffer 179 5 B gb (Lib.byteCells bs) w) (hBw : B ≤ w.heap.size) (h0 : 0 ≤ r) (h1 : r ≤ 1114111) (hl : bs.length ≤ 100000) :
    Calls Tryz.prog 98 #[.pointer (some ⟨gb, 0, none⟩), .int .i32 r] w fun e w' => (∃ v, e = .returned v) ∧ Lib.IsBuffer 179 5 B gb (Lib.byteCells (bs ++ Lib.encodeRune r)) w' ∧ Below B w w' := by
  refine (Tryz.Buffer_WriteRune_k B gb (Lib.byteCells bs) r (by omega) (by omega) w hI hBw (Lib.byteCells_one _) (by rw [Lib.byteCells_length]; omega)).mono ?_
  rintro e w' ⟨rfl, hI', hb', _⟩
  rw [← Lib.byteCells_encodeRune, ← Lib.byteCells_append] at hI'
  exact ⟨⟨_, rfl⟩, hI', hb'⟩
theorem txt_mono (s : ByteArray) : ∀ (k : Nat) (p : Int) (o : ByteArray), (txt s k p o true).2 = true := by
  intro k
  induction k with
  | zero => intro p o; rfl
  | succ k ih =>
    intro p o
    rw [txt]
    (repeat' split) <;> first | rfl | simp [ih]
end Go.Proofs.YtbobbognjmofdaaGreatDoor.Lex
end
section
/-
  The package's readDigits, walked.
-/
namespace Go.Proofs.YtbobbognjmofdaaGreatDoor.Lex
open Go.RowKit Go.Proofs.YtbobbognjmofdaaGreatDoorW.PrintWords Go.Proofs.YtbobbognjmofdaaGreatDoorW.PrintLast Go.Proofs.YtbobbognjmofdaaGreatDoorW.PrintMore
open Go.Proofs.YtbobbognjmofdaaGreatDoor.Ptext
set_option linter.unusedVariables false
set_option linter.unusedSimpArgs false
/-- A byte below 128 is its own code point; elsewhere the code point is none of these. -/
theorem rn_ascii (s : ByteArray) (p : Int) (h0 : 0 ≤ p) (h1 : 0 < nx s p) (h2 : nx s p < 128) : rn s p = (nx s p, 1) := by
  have hlt : p < (s.size : Int) := nx_in (by omega)
  rw [nx_bt hlt] at h2 ⊢
  exact rn_small s p h0 hlt h2
theorem rn_other (s : ByteArray) (p : Int) (h0 : 0 ≤ p) (h : nx s p = 0 ∨ 128 ≤ nx s p) : (rn s p).1 ≤ 0 ∨ 128 ≤ (rn s p).1 := by
  by_cases hlt : p < (s.size : Int)
  · rw [nx_bt hlt] at h
    rcases h with h | h
    · rw [rn_small s p h0 hlt (by omega)]; exact .inl (by show bt s p ≤ 0; omega)
    · exact .inr ((rn_bounds s p h0 hlt).2.2.2.2.2 h)
  · rw [rn_eof s p (by omega)]; exact .inl (by decide)
theorem rn_is (s : ByteArray) (p k : Int) (h0 : 0 ≤ p) (hk : 0 < k) (hk2 : k < 128) : ((rn s p).1 = k ↔ nx s p = k) ∧ (nx s p = k → (rn s p).2 = 1) := by
  have hr := nx_range s p
  by_cases h : 0 < nx s p ∧ nx s p < 128
  · rw [rn_ascii s p h0 h.1 h.2]; exact ⟨Iff.rfl, fun _ => rfl⟩
  · have := rn_other s p h0 (by omega)
    exact ⟨⟨fun h1 => by omega, fun h1 => by omega⟩, fun h1 => by omega⟩
theorem rn_dg (s : ByteArray) (p : Int) (h0 : 0 ≤ p) : ((48 ≤ (rn s p).1 ∧ (rn s p).1 ≤ 57) ↔ isDg (nx s p) = true) ∧ (isDg (nx s p) = true → (rn s p).2 = 1) := by
  have hr := nx_range s p
  by_cases h : 0 < nx s p ∧ nx s p < 128
  · rw [rn_ascii s p h0 h.1 h.2, isDg_iff]; exact ⟨Iff.rfl, fun _ => rfl⟩
  · have := rn_other s p h0 (by omega)
    rw [isDg_iff]
    exact ⟨⟨fun h1 => by omega, fun h1 => by omega⟩, fun h1 => by omega⟩
set_option maxRecDepth 4000 in
set_option maxHeartbeats 1000000 in
theorem readDigits_any (s : ByteArray) (g b c : Nat) (p : Int) (w : World) (h : Src w b c s) (hg : w.cell? ⟨g, 0, none⟩ = some (.slice (some ⟨b, 0, none⟩) s.size c)) (hs : s.size ≤ 2000) (h0 : 0 ≤ p) (hp : p ≤ s.size) :
    Calls Tryz.prog 148 #[.pointer (some ⟨g, 0, none⟩), .int .i64 p, .int .i32 (rn s p).1, .int .i64 (rn s p).2] w fun e w' =>
      (if isDg (nx s p) = true then e = .returned (.tuple #[.int .i64 (dge s p), .nilIface]) else ∃ q, e = .returned (.tuple #[.int .i64 p, .iface 182 (.pointer (some ⟨q, 0, none⟩))])) ∧ Below w.heap.size w w' := by
  have HS := Aside0.mk h
  have HG := Aside0.mk hg
  obtain ⟨⟨cd, n⟩, hrn⟩ : ∃ r, r = rn s p := ⟨_, rfl⟩
  have hdg := rn_dg s p h0
  rw [← hrn] at hdg ⊢
  have HRN := Aside0.mk hrn
  clear h hrn
  cases hd : isDg (nx s p) with
  | false =>
    have hnd : ¬ (48 ≤ cd ∧ cd ≤ 57) := fun h => by rw [hdg.1.1 h] at hd; cases hd
    clear hdg
    go_enter Tryz.func148, Tryz.ntmps148
    go_upto_region 4 with fail
    go_cut [25] (fun v wc => v = .bool false ∧ wc = w)
    case first =>
      by_cases e1 : cd ≥ 48
      · have b1 : decide (cd ≥ 48) = true := decide_eq_true e1
        have b2 : decide (cd ≤ 57) = false := decide_eq_false (by omega)
        go_wp2_with fail
        go_meet
        case rel => exact ⟨rfl, rfl⟩
      · have b1 : decide (cd ≥ 48) = false := decide_eq_false e1
        go_wp2_with fail
        go_meet
        case rel => exact ⟨rfl, rfl⟩
    case rest =>
      obtain ⟨rfl, rfl⟩ := hcut
      clear hnd hg
      go_wp2_with fail
      refine (PFnReadString.synErr_any s g (some ⟨b, 0, none⟩) c p _ _ HG.out HS.out.cells HS.out.le hs (by omega) (by omega)).mono ?_
      rintro e w9 ⟨⟨q, rfl⟩, hb9⟩
      have HB9 := Aside0.mk hb9
      clear hb9
      go_wp2_with fail
      go_ret2
      exact ⟨⟨q, rfl⟩, HB9.out⟩
  | true =>
    obtain ⟨hd1, hd2⟩ := hdg.1.2 hd
    obtain rfl : n = 1 := hdg.2 hd
    have HD := Aside0.mk hd
    clear hdg hd
    have b1 : decide (cd ≥ 48) = true := decide_eq_true hd1
    have b2 : decide (cd ≤ 57) = true := decide_eq_true hd2
    obtain ⟨R, hR⟩ : ∃ R, R = dge s p := ⟨_, rfl⟩
    rw [← hR]
    have HR := Aside0.mk hR
    clear hR
    go_enter Tryz.func148, Tryz.ntmps148
    go_wp2_with fail
    clear hg b1 b2
    go_loopg [3, 11, 12] ((s.size : Int) - p).toNat (fun kq v3 v11 v12 wr => ∃ (q : Int), v3 = .int .i64 (rn s q).2 ∧ v11 = .int .i64 q ∧ v12 = .int .i32 (rn s q).1 ∧ Aside0 (p ≤ q ∧ q ≤ s.size ∧ kq = ((s.size : Int) - q).toNat ∧ dge s q = R ∧ Below w.heap.size w wr))
    case atStart => exact ⟨p, by rw [← HRN.out], rfl, by rw [← HRN.out], ⟨by omega, by omega, rfl, HR.out.symm, Below.refl _ _⟩⟩
    case round =>
      obtain ⟨q, rfl, rfl, rfl, HA⟩ := hrel
      have hq1 := HA.out.1
      have hq2 := HA.out.2.1
      have HSr := Aside0.mk (HS.out.below HA.out.2.2.2.2)
      have HBB := Aside0.mk HA.out.2.2.2.2
      obtain ⟨⟨c2, n2_⟩, hrn⟩ : ∃ r, r = rn s q := ⟨_, rfl⟩
      have hdg := rn_dg s q (by omega)
      rw [← hrn] at hdg ⊢
      clear hrn
      cases hd : isDg (nx s q) with
      | true =>
        obtain ⟨hd1, hd2⟩ := hdg.1.2 hd
        obtain rfl : n2_ = 1 := hdg.2 hd
        have hlt : q < (s.size : Int) := nx_in (by intro h0; rw [h0] at hd; cases hd)
        have hn : dge s (q + 1) = R := by rw [← HA.out.2.2.2.1, dge_eq s q, if_pos hd]
        have HN := Aside0.mk hn
        have b1 : decide (c2 ≥ 48) = true := decide_eq_true hd1
        have b2 : decide (c2 ≤ 57) = true := decide_eq_true hd2
        clear hdg hd hn
        go_wp2_with fail
        refine (runeAt_any s b c (q + 1) _ HSr.out hs (by omega) (by omega)).mono ?_
        rintro e w2 ⟨rfl, hb2⟩
        have HB2 := Aside0.mk (below_then HBB.out HBB.out.size hb2)
        clear hb2
        go_wp2_with fail
        go_roundg ((s.size : Int) - (q + 1)).toNat
        case measure => have := HA.out.2.2.1; omega
        case rel => exact ⟨q + 1, rfl, rfl, rfl, ⟨by omega, by omega, rfl, HN.out, HB2.out⟩⟩
      | false =>
        have hnd : ¬ (48 ≤ c2 ∧ c2 ≤ 57) := fun h => by rw [hdg.1.1 h] at hd; cases hd
        have hn : R = q := by rw [← HA.out.2.2.2.1, dge_none hd]
        have HN := Aside0.mk hn
        clear hdg hd hn
        by_cases e1 : c2 ≥ 48
        · have b1 : decide (c2 ≥ 48) = true := decide_eq_true e1
          have b2 : decide (c2 ≤ 57) = false := decide_eq_false (by omega)
          go_wp2_with fail
          go_ret2
          rw [HN.out]
          exact ⟨rfl, HBB.out⟩
        · have b1 : decide (c2 ≥ 48) = false := decide_eq_false e1
          go_wp2_with fail
          go_ret2
          rw [HN.out]
          exact ⟨rfl, HBB.out⟩
end Go.Proofs.YtbobbognjmofdaaGreatDoor.Lex
end
