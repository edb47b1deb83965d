/-
  The package's runeAt, walked: what it tells of a place in a text that lies in memory.
-/
import Derived.Test.YtbobbognjmofdaaGreatDoorLexPt
import Derived.Test.YtbobbognjmofdaaGreatDoorLexRune0
namespace Go.Proofs.YtbobbognjmofdaaGreatDoor.Lex
open Go.RowKit Go.Proofs.YtbobbognjmofdaaGreatDoorW.PrintWords Go.Proofs.YtbobbognjmofdaaGreatDoorW.PrintLast Go.Proofs.YtbobbognjmofdaaGreatDoorW.PrintMore
open Go.Proofs.YtbobbognjmofdaaGreatDoor.Ptext
set_option linter.unusedVariables false
set_option linter.unusedSimpArgs false
theorem tabs_below {w w' : World} (h : Lib.Utf8Tabs 1 2 w) (hb : Below w.heap.size w w') : Lib.Utf8Tabs 1 2 w' := by
  have lt : ∀ {a : Addr} {v : Value}, w.cell? a = some v → a.block < w.heap.size := fun {a v} hc => by
    rcases Nat.lt_or_ge a.block w.heap.size with h' | h'
    · exact h'
    · simp [World.cell?, Array.getElem?_eq_none h'] at hc
  exact ⟨fun c hc => (hb.cell (lt (h.1 c hc))).trans (h.1 c hc), fun i hi => ⟨(hb.cell (lt (h.2 i hi).1)).trans (h.2 i hi).1, (hb.cell (lt (h.2 i hi).2)).trans (h.2 i hi).2⟩⟩
/-- A text's bytes in memory. -/
structure Src (W : World) (b c : Nat) (s : ByteArray) : Prop where
  cells : Kd.C (Kd.int .u8) W (some ⟨b, 0, none⟩) s.size (bytesOf s)
  le : s.size ≤ c
  lt : b < W.heap.size
  tabs : Lib.Utf8Tabs 1 2 W
theorem Src.below {W W1 : World} {b c : Nat} {s : ByteArray} (h : Src W b c s) (hb : Below W.heap.size W W1) : Src W1 b c s :=
  ⟨Kd.C_below h.cells hb, h.le, Nat.lt_of_lt_of_le h.lt hb.size, tabs_below h.tabs hb⟩
theorem addr_add0 (b j : Nat) : (⟨b, 0, none⟩ : Addr).add j = ⟨b, j, none⟩ := by
  unfold Addr.add
  split
  · rename_i h; subst h; rfl
  · rw [Nat.zero_add]
theorem Src.cell {W : World} {b c : Nat} {s : ByteArray} (h : Src W b c s) (i : Int) (h0 : 0 ≤ i) (hi : i < s.size) : W.cell? ⟨b, i.toNat, none⟩ = some (.int .u8 (bt s i)) := by
  obtain ⟨ad, e, hx⟩ := Kd.at_int h.cells i h0 hi
  cases e
  rw [rd_bytesOf] at hx
  rw [← hx, addr_add0]
theorem get_extract (s : ByteArray) (a j : Nat) : (s.extract a s.size).get! j = s.get! (a + j) := by
  simp only [ByteArray.get!, ByteArray.data_extract, getElem!_def, Array.getElem?_extract]
  have : s.size = s.data.size := rfl
  by_cases h : a + j < s.data.size
  · rw [if_pos (by omega)]
  · rw [if_neg (by omega), Array.getElem?_eq_none (by omega)]
theorem decode_extract (s : ByteArray) (p : Nat) (hp : p < s.size) : Lib.decodeGo (s.extract p s.size) = Utf8.decode s p := by
  have hsz : (s.extract p s.size).size = s.size - p := by rw [ByteArray.size_extract]; omega
  rw [Lib.decodeGo, if_neg (by omega), Lib.decode_at, Lib.decode_at, hsz, get_extract, get_extract, get_extract, get_extract]
  rfl
set_option maxHeartbeats 400000 in
theorem runeAt_any (s : ByteArray) (b c : Nat) (p : Int) (w : World) (h : Src w b c s) (hs : s.size ≤ 2000) (h0 : 0 ≤ p) (hp : p ≤ 100000) :
    Calls Tryz.prog 95 #[.slice (some ⟨b, 0, none⟩) s.size c, .int .i64 p] w fun e w' => e = .returned (.tuple #[.int .i32 (rn s p).1, .int .i64 (rn s p).2]) ∧ Below w.heap.size w w' := by
  have HS := Aside0.mk h
  clear h
  obtain ⟨R, hR⟩ : ∃ R, R = rn s p := ⟨_, rfl⟩
  rw [← hR]
  have HR := Aside0.mk hR
  clear hR
  by_cases hlt : (s.size : Int) ≤ p
  · have hfin : R = (-1, 65533) := by rw [HR.out]; exact rn_eof s p hlt
    have HF := Aside0.mk hfin
    clear hfin
    go_enter Tryz.func95, Tryz.ntmps95
    go_wp2_with fail
    go_ret2
    rw [HF.out]
    exact ⟨rfl, Below.refl _ _⟩
  · have hx := HS.out.cell p h0 (by omega)
    have hr := bt_range s p
    have hcap : (s.size : Int) ≤ (c : Int) := by have := HS.out.le; omega
    have hp2 : p < (s.size : Int) := by omega
    obtain ⟨v, hv⟩ : ∃ v, v = bt s p := ⟨_, rfl⟩
    rw [← hv] at hx hr
    have HV := Aside0.mk hv
    clear hv
    by_cases hb : v < 128
    · have hfin : R = (v, 1) := by rw [HR.out, HV.out]; exact rn_small s p h0 hp2 (by rw [← HV.out]; exact hb)
      have HF := Aside0.mk hfin
      clear hfin
      go_enter Tryz.func95, Tryz.ntmps95
      go_wp2_with fail
      go_ret2
      rw [HF.out]
      exact ⟨rfl, Below.refl _ _⟩
    · have hsz : (s.extract p.toNat s.size).size = s.size - p.toNat := by rw [ByteArray.size_extract]; omega
      have hd := Tryz.utf8_DecodeRune (s.extract p.toNat s.size) b p.toNat (c - p.toNat) w HS.out.tabs (fun j hj => by
        rw [get_extract, ← bt_get]
        have := HS.out.cell ((p.toNat + j : Nat) : Int) (by omega) (by omega)
        rwa [Int.toNat_natCast] at this)
      rw [hsz, decode_extract s p.toNat (by omega)] at hd
      have hfin : R = (((Utf8.decode s p.toNat).1 : Int), ((Utf8.decode s p.toNat).2 : Int)) := by rw [HR.out]; unfold rn; rw [if_neg (by omega)]
      obtain ⟨q1, q2⟩ := R
      obtain ⟨f1, f2⟩ := Prod.mk.inj hfin
      rw [← f1, ← f2] at hd
      have HD := Aside0.mk hd
      clear hd hsz f1 f2 hfin
      go_enter Tryz.func95, Tryz.ntmps95
      go_wp2_with fail
      refine HD.out.mono ?_
      rintro e w1 ⟨rfl, hb1⟩
      have HB1 := Aside0.mk hb1
      clear hb1
      go_wp2_with fail
      go_ret2
      exact ⟨rfl, HB1.out⟩
end Go.Proofs.YtbobbognjmofdaaGreatDoor.Lex
