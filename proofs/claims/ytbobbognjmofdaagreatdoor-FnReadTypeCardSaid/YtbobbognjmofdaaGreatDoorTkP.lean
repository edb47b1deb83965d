/-
  FnTokens: the reference's whole run over a text, and how it goes from one token to the next. Plain words.
-/
import Derived.Test.YtbobbognjmofdaaGreatDoorK23
namespace Go.Proofs.YtbobbognjmofdaaGreatDoor.Lex
open Go.RowKit Go.Proofs.YtbobbognjmofdaaGreatDoorW.PrintWords Go.Proofs.YtbobbognjmofdaaGreatDoorW.PrintLast Go.Proofs.YtbobbognjmofdaaGreatDoorW.PrintMore
open Go.Proofs.YtbobbognjmofdaaGreatDoor.Ptext
set_option linter.unusedVariables false
set_option linter.unusedSimpArgs false
/-- The reference's whole run: the tokens, whether it is refused, whether that is not sure. -/
def lexd (s : ByteArray) : Nat → Int → Bool → List S24 → List S24 × Bool × Bool
  | 0, _, u, l => (l, false, u)
  | k + 1, p, u, l =>
    if (s.size : Int) ≤ p then (l, false, u)
    else match stp s p u with
      | .skip q v => lexd s k q v l
      | .bad _ v => (l, true, v)
      | .tok kd v e u' => lexd s k e u' (l ++ [⟨kd, v, p, e⟩])
theorem lexd_uns (s : ByteArray) : ∀ (k : Nat) (p : Int) (l : List S24), (lexd s k p true l).2.2 = true
  | 0, p, l => rfl
  | k + 1, p, l => by
    rw [lexd]
    have h := stp_uns s p
    split
    · rfl
    · split
      · rename_i q u' he
        rw [he] at h
        have h : u' = true := h
        subst h
        exact lexd_uns s k _ _
      · rename_i q u' he
        rw [he] at h
        exact h
      · rename_i a b c u' he
        rw [he] at h
        have h : u' = true := h
        subst h
        exact lexd_uns s k _ _
theorem lexd_sure {s : ByteArray} {k : Nat} {p : Int} {u : Bool} {l : List S24} {R : List S24 × Bool × Bool} (h : lexd s k p u l = R) (hR : R.2.2 = false) : u = false := by
  cases u with
  | false => rfl
  | true =>
    have := lexd_uns s k p l
    rw [h, hR] at this
    cases this
/-- How the run goes on from a place: it is refused; it is at its end; it has one token more. -/
inductive Goes (s : ByteArray) (R : List S24 × Bool × Bool) (p : Int) (l : List S24) : Option S24 → Prop where
  | bad (h : R = (l, true, false)) : Goes s R p l none
  | fin (h : R = (l, false, false)) : Goes s R p l (some ⟨1, ⟨#[]⟩, s.size, s.size⟩)
  | tok (t : S24) (k : Nat) (hk : t.f0 ≠ 1) (h1 : p < t.f3) (h2 : t.f3 ≤ s.size) (h3 : (s.size : Int) < t.f3 + k) (h : lexd s k t.f3 false (l ++ [t]) = R) : Goes s R p l (some t)
theorem Goes.mono {s : ByteArray} {R : List S24 × Bool × Bool} {p q : Int} {l : List S24} {N : Option S24} (h : Goes s R q l N) (hp : p ≤ q) : Goes s R p l N := by
  cases h with
  | bad h => exact .bad h
  | fin h => exact .fin h
  | tok t k hk h1 h2 h3 h => exact .tok t k hk (by omega) h2 h3 h
theorem lexd_goes (s : ByteArray) (hpt : ∀ p : Int, 0 ≤ p → p < s.size → ((ptS s p).2 = 0 ∨ 1 ≤ (ptS s p).2 ∧ (ptS s p).2 ≤ 4 ∧ p + (ptS s p).2 ≤ s.size)) (R : List S24 × Bool × Bool) (hR : R.2.2 = false) :
    ∀ (k : Nat) (p : Int) (l : List S24), 0 ≤ p → p ≤ s.size → (s.size : Int) < p + k → lexd s k p false l = R → ∃ N, nxt s k p false = (N, false) ∧ Goes s R p l N
  | 0, p, l, h0, hp, hk, h => by omega
  | k + 1, p, l, h0, hp, hk, h => by
    rw [lexd] at h
    rw [nxt]
    by_cases hz : (s.size : Int) ≤ p
    · rw [if_pos hz] at h ⊢
      exact ⟨_, rfl, .fin h.symm⟩
    rw [if_neg hz] at h ⊢
    have hf := stp_fits s hpt p false h0 (by omega)
    cases hx : stp s p false with
    | skip q v =>
      rw [hx] at h hf
      obtain ⟨h4, h5⟩ := hf
      have h : lexd s k q v l = R := h
      obtain rfl := lexd_sure h hR
      obtain ⟨N, hN, hG⟩ := lexd_goes s hpt R hR k q l (by omega) h5 (by omega) h
      exact ⟨N, hN, hG.mono (by omega)⟩
    | bad q v =>
      rw [hx] at h
      have h : (l, true, v) = R := h
      have hv : v = false := by rw [← h] at hR; exact hR
      subst hv
      exact ⟨none, rfl, .bad h.symm⟩
    | tok a b c d =>
      rw [hx] at h hf
      obtain ⟨h4, h5⟩ := hf
      have h : lexd s k c d (l ++ [⟨a, b, p, c⟩]) = R := h
      obtain rfl := lexd_sure h hR
      exact ⟨_, rfl, .tok ⟨a, b, p, c⟩ k (stp_kind hx) h4 h5 (by show (s.size : Int) < c + k; omega) h⟩
/-- Where the reference's loop over a text stands. -/
inductive Run (s : ByteArray) (R : List S24 × Bool × Bool) : Nat → LS → Prop where
  | run (j : Nat) (p : Int) (u : Bool) (l : List S24) (h0 : 0 ≤ p) (h1 : p ≤ s.size) (h2 : (s.size : Int) < p + j) (hl : (l.length : Int) ≤ p) (h3 : lexd s j p u l = R) : Run s R (j + 1) ⟨s, p, l, false, u⟩
  | bad (k : Nat) (p : Int) (u : Bool) (l : List S24) (h : R = (l, true, u)) : Run s R k ⟨s, p, l, true, u⟩
theorem run_step {s : ByteArray} {R : List S24 × Bool × Bool} {j : Nat} {p : Int} {u : Bool} {l : List S24} (hpt : ∀ p : Int, 0 ≤ p → p < s.size → ((ptS s p).2 = 0 ∨ 1 ≤ (ptS s p).2 ∧ (ptS s p).2 ≤ 4 ∧ p + (ptS s p).2 ≤ s.size))
   (h0 : 0 ≤ p) (hp : p < s.size) (h2 : (s.size : Int) < p + j) (hl : (l.length : Int) ≤ p) (h3 : lexd s j p u l = R) : Run s R j (LS.stp ⟨s, p, l, false, u⟩ (stp s p u)) := by
  have hf := stp_fits s hpt p u h0 hp
  obtain ⟨j, rfl⟩ : ∃ i, j = i + 1 := ⟨j - 1, by omega⟩
  rw [lexd, if_neg (by omega)] at h3
  cases hx : stp s p u with
  | skip q v =>
    rw [hx] at h3 hf
    obtain ⟨h4, h5⟩ := hf
    exact .run j q v l (by omega) h5 (by omega) (by omega) h3
  | bad q v =>
    rw [hx] at h3
    exact .bad _ q v l h3.symm
  | tok k v e u' =>
    rw [hx] at h3 hf
    obtain ⟨h4, h5⟩ := hf
    exact .run j e u' _ (by omega) h5 (by omega) (by simp; omega) h3
/-- There are no more tokens than bytes. -/
theorem lexd_length (s : ByteArray) (hpt : ∀ p : Int, 0 ≤ p → p < s.size → ((ptS s p).2 = 0 ∨ 1 ≤ (ptS s p).2 ∧ (ptS s p).2 ≤ 4 ∧ p + (ptS s p).2 ≤ s.size)) :
    ∀ (k : Nat) (p : Int) (u : Bool) (l : List S24), 0 ≤ p → p ≤ s.size → (l.length : Int) ≤ p → (((lexd s k p u l).1.length : Nat) : Int) ≤ s.size
  | 0, p, u, l, h0, hp, hl => by
    show (l.length : Int) ≤ s.size
    omega
  | k + 1, p, u, l, h0, hp, hl => by
    rw [lexd]
    by_cases hz : (s.size : Int) ≤ p
    · rw [if_pos hz]
      show (l.length : Int) ≤ s.size
      omega
    rw [if_neg hz]
    have hf := stp_fits s hpt p u h0 (by omega)
    cases hx : stp s p u with
    | skip q v =>
      rw [hx] at hf
      obtain ⟨h4, h5⟩ := hf
      exact lexd_length s hpt k q v l (by omega) h5 (by omega)
    | bad q v =>
      show (l.length : Int) ≤ s.size
      omega
    | tok a b c d =>
      rw [hx] at hf
      obtain ⟨h4, h5⟩ := hf
      exact lexd_length s hpt k c d _ (by omega) h5 (by simp; omega)
/-- What the reference says of a text. -/
def lexR (s : ByteArray) : List S24 × Bool × Bool := lexd s (s.size + 1) 0 false []
end Go.Proofs.YtbobbognjmofdaaGreatDoor.Lex
