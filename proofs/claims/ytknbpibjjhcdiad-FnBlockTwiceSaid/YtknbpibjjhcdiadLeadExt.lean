/-
  lexer.leadingWhitespaceLen: how many blanks and tabs a text begins with: its contract, out of its walk, for every text.
-/
import Derived.Test.YtknbpibjjhcdiadWMore
import Derived.Test.YtknbpibjjhcdiadProg
import Derived.Laws.RangeAny
import Derived.Laws.RangeString
import Derived.LoopTactic
namespace Go.Proofs.Ytknbpibjjhcdiad
open Go.RowKit Go.Proofs.YtknbpibjjhcdiadW.PrintWords Go.Proofs.YtknbpibjjhcdiadW.PrintLast Go.Proofs.YtknbpibjjhcdiadW.PrintMore
set_option linter.unusedVariables false
set_option linter.unusedSimpArgs false

/-- Whether a byte is a blank or a tab. -/
def wht (c : UInt8) : Bool := c == 32 || c == 9
/-- How many blanks and tabs a text begins with. -/
def lead (l : List UInt8) : Nat := (l.takeWhile wht).length
def lexer_leadingWhitespaceLen.f (s : ByteArray) : Option Int := if s.size ≤ 4611686018427387904 then some (lead s.data.toList) else none

theorem lead_le (l : List UInt8) : lead l ≤ l.length := by
  unfold lead
  exact (List.takeWhile_sublist _).length_le
theorem lead_drop (l : List UInt8) (k : Nat) (h : ∀ j c, j < k → l[j]? = some c → wht c = true) (hk : k ≤ l.length) : lead l = k + lead (l.drop k) := by
  induction k generalizing l with
  | zero => simp
  | succ k ih =>
    cases l with
    | nil => simp at hk
    | cons a r =>
      have ha : wht a = true := h 0 a (by omega) rfl
      have := ih r (fun j c hj hc => h (j + 1) c (by omega) (by simpa using hc)) (by simpa using hk)
      have e : lead (a :: r) = lead r + 1 := by simp [lead, List.takeWhile_cons, ha]
      rw [e, this]
      simp
      omega

set_option maxHeartbeats 800000 in
theorem lexer_leadingWhitespaceLen.calls (a0 : ByteArray) (r : Int) (w : World) (h : lexer_leadingWhitespaceLen.f a0 = some r) :
    Calls Try.prog 17 #[.string a0] w fun e w' => e = .returned (.int .i64 r) ∧ Below w.heap.size w w' := by
  unfold lexer_leadingWhitespaceLen.f at h
  split at h
  · rename_i hs
    have HR := Aside0.mk (Option.some.inj h)
    clear h
    go_enter Try.func17, Try.ntmps17
    go_wp2_with fail
    go_loopw [2] (fun n w' => ∃ pos : Nat, pos ≤ a0.size ∧ w' = w.iter a0 pos ∧ n = .int .i64 (pos : Int) ∧ Aside0 (∀ (j : Nat) (c : UInt8), j < pos → a0.data.toList[j]? = some c → wht c = true)) (fun _ w' => a0.size - w'.iterPos w.heap.size)
    case atStart => exact ⟨0, by omega, rfl, rfl, ⟨fun j c hj => by omega⟩⟩
    case round =>
      obtain ⟨pos, hpos, rfl, rfl, HA⟩ := hrel
      by_cases hp : pos < a0.size
      · have hnx : ∀ ty, (Instr.next (.pointer (some ⟨w.heap.size, 0, none⟩)) true ty).run Try.prog (w.iter a0 pos) = _ := fun ty => run_next_any w a0 pos ty hp
        have hz : (pos : Int) ≤ 4611686018427387904 := by omega
        have hget : a0.data.toList[pos]? = some (a0[pos]'hp) := by
          rw [List.getElem?_eq_getElem (by rw [Array.length_toList]; exact hp)]
          rfl
        have HG := Aside0.mk hget
        clear hget
        by_cases hc : wht (a0[pos]'hp) = true
        · have hv : a0[pos]'hp = 32 ∨ a0[pos]'hp = 9 := by
            unfold wht at hc
            rcases Bool.or_eq_true _ _ ▸ hc with h | h
            · exact .inl (beq_iff_eq.1 h)
            · exact .inr (beq_iff_eq.1 h)
          have hstep : ∀ (j : Nat) (c : UInt8), j < pos + 1 → a0.data.toList[j]? = some c → wht c = true := by
            intro j c hj hjc
            by_cases e : j = pos
            · subst e
              rw [HG.out] at hjc
              injection hjc with hjc
              rw [← hjc]; exact hc
            · exact HA.out j c (by omega) hjc
          have HS := Aside0.mk hstep
          clear hstep hc
          rcases hv with hv | hv
          · have hd : Utf8.decode a0 pos = (32, 1) := by rw [decode_ascii a0 pos hp (by rw [hv]; decide), hv]; rfl
            simp only [hd] at hnx
            clear hd hv
            go_wp2_with fail
            go_roundw
            case rel => exact ⟨pos + 1, by omega, rfl, by go_num, HS⟩
            case measure =>
              simp
              omega
          · have hd : Utf8.decode a0 pos = (9, 1) := by rw [decode_ascii a0 pos hp (by rw [hv]; decide), hv]; rfl
            simp only [hd] at hnx
            clear hd hv
            go_wp2_with fail
            go_roundw
            case rel => exact ⟨pos + 1, by omega, rfl, by go_num, HS⟩
            case measure =>
              simp
              omega
        · have hne : (Utf8.decode a0 pos).1 ≠ 32 ∧ (Utf8.decode a0 pos).1 ≠ 9 := by
            by_cases ha : (a0[pos]'hp).toNat < 128
            · rw [decode_ascii a0 pos hp ha]
              refine ⟨fun h => hc ?_, fun h => hc ?_⟩
              · have : a0[pos]'hp = 32 := UInt8.toNat_inj.1 h
                rw [this]; rfl
              · have : a0[pos]'hp = 9 := UInt8.toNat_inj.1 h
                rw [this]; rfl
            · have := (decode_high a0 pos hp (by omega)).1
              omega
          have hfin : (pos : Int) = r := by
            rw [← HR.out, lead_drop a0.data.toList pos HA.out (by rw [Array.length_toList]; exact hpos)]
            obtain ⟨hl, he⟩ := List.getElem?_eq_some_iff.1 HG.out
            rw [List.drop_eq_getElem_cons hl, he]
            have hc' : wht (a0[pos]'hp) = false := by simpa using hc
            simp [lead, List.takeWhile_cons, hc']
          have HF := Aside0.mk hfin
          obtain ⟨d, hd⟩ : ∃ d, d = (Utf8.decode a0 pos).1 := ⟨_, rfl⟩
          obtain ⟨q, hq⟩ : ∃ q, q = pos + (Utf8.decode a0 pos).2 := ⟨_, rfl⟩
          simp only [← hd, ← hq] at hnx
          rw [← hd] at hne
          have h1 : ((d : Int) == 32) = false := beq_eq_false_iff_ne.2 (by omega)
          have h2 : ((d : Int) == 9) = false := beq_eq_false_iff_ne.2 (by omega)
          clear hc hfin hne hd hq
          go_wp2_with fail
          go_ret
          exact ⟨by rw [HF.out]; rfl, by unfold World.iter; exact below_alloc (Below.refl _ _) _⟩
      · have hnx : ∀ ty, (Instr.next (.pointer (some ⟨w.heap.size, 0, none⟩)) true ty).run Try.prog (w.iter a0 pos) = _ := fun ty => run_next_end w a0 pos ty hp
        have hfin : (pos : Int) = r := by
          rw [← HR.out, lead_drop a0.data.toList pos HA.out (by rw [Array.length_toList]; exact hpos)]
          rw [List.drop_of_length_le (by rw [Array.length_toList]; show a0.size ≤ pos; omega)]
          simp [lead]
        have HF := Aside0.mk hfin
        clear hfin
        go_wp2_with fail
        go_ret
        exact ⟨by rw [HF.out]; rfl, by unfold World.iter; exact below_alloc (Below.refl _ _) _⟩
  · cases h
end Go.Proofs.Ytknbpibjjhcdiad
