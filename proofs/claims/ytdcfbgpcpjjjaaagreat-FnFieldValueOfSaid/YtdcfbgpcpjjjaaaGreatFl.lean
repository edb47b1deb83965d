/- Plain facts on 64-bit floats: what is cut to a whole number below 2^53 is written without loss; the order against whole numbers is the order of the whole numbers. -/
import Derived.Laws.FloatArith
namespace Go.Proofs.YtdcfbgpcpjjjaaaGreat.Fl
set_option linter.unusedVariables false
open Ieee

abbrev D : Format := Ieee.double

theorem cut_zero (s : Bool) (n d : Nat) : Toward.zero.cut s n d = n / 2 ^ d := by
  unfold Toward.cut
  simp only [Bool.toNat_false, Nat.add_zero, Nat.one_shiftLeft]
  rcases Nat.le_total d (n.log2 + 2) with h | h
  · rw [Nat.min_eq_left h]
  · rw [Nat.min_eq_right h]
    have h1 : n < 2 ^ (n.log2 + 2) := Nat.lt_of_lt_of_le (Nat.lt_log2_self (n := n)) (Nat.pow_le_pow_right (by decide) (by omega))
    rw [Nat.div_eq_of_lt h1, Nat.div_eq_of_lt (Nat.lt_of_lt_of_le h1 (Nat.pow_le_pow_right (by decide) h))]

/-- The whole part of a number, without its sign. -/
def whole (m : Nat) (i : Int) : Nat := m * 2 ^ i.toNat / 2 ^ (-i).toNat

theorem integral_number (s : Bool) (m : Nat) (i : Int) : (Datum.number s m i).integral .zero = .number s (whole m i) 0 := by
  simp only [Datum.integral, cut_zero, Nat.shiftLeft_eq, whole]

theorem toInt_number (s : Bool) (m : Nat) (i : Int) : (Datum.number s m i).toInt .zero = some (signed s (whole m i) 0) := by
  unfold Datum.toInt
  rw [integral_number]

theorem signed_zero (s : Bool) (m : Nat) : signed s m 0 = if s then -(m : Int) else m := by
  simp [signed]

/-- Below a whole number: so is the whole part. -/
theorem whole_lt {m n : Nat} {i j : Int} {c : Nat} (hc : n * 2 ^ j.toNat = c * 2 ^ (-j).toNat)
    (h : m * 2 ^ (i - min i j).toNat < n * 2 ^ (j - min i j).toNat) : whole m i < c := by
  unfold whole
  rw [Nat.div_lt_iff_lt_mul (Nat.two_pow_pos _)]
  have e : (-i).toNat + j.toNat + (i - min i j).toNat = i.toNat + (-j).toNat + (j - min i j).toNat := by omega
  refine Nat.lt_of_mul_lt_mul_right (a := 2 ^ ((-j).toNat + (j - min i j).toNat)) ?_
  have h2 := Nat.mul_lt_mul_of_pos_right h (Nat.two_pow_pos ((-i).toNat + j.toNat))
  have l : m * 2 ^ (i - min i j).toNat * 2 ^ ((-i).toNat + j.toNat) = m * 2 ^ i.toNat * 2 ^ ((-j).toNat + (j - min i j).toNat) := by
    rw [Nat.mul_assoc, Nat.mul_assoc, ← Nat.pow_add, ← Nat.pow_add]
    congr 2; omega
  have r : n * 2 ^ (j - min i j).toNat * 2 ^ ((-i).toNat + j.toNat) = c * 2 ^ (-i).toNat * 2 ^ ((-j).toNat + (j - min i j).toNat) := by
    have : n * 2 ^ (j - min i j).toNat * 2 ^ ((-i).toNat + j.toNat) = (n * 2 ^ j.toNat) * 2 ^ ((j - min i j).toNat + (-i).toNat) := by
      rw [Nat.mul_assoc, Nat.mul_assoc, ← Nat.pow_add, ← Nat.pow_add]
      congr 2; omega
    rw [this, hc, Nat.mul_assoc, Nat.mul_assoc, ← Nat.pow_add, ← Nat.pow_add]
    congr 2; omega
  rw [l, r] at h2
  exact h2

theorem whole_le {m n : Nat} {i j : Int} {c : Nat} (hc : n * 2 ^ j.toNat = c * 2 ^ (-j).toNat)
    (h : m * 2 ^ (i - min i j).toNat ≤ n * 2 ^ (j - min i j).toNat) : whole m i ≤ c := by
  unfold whole
  have e : m * 2 ^ i.toNat ≤ c * 2 ^ (-i).toNat := by
    refine Nat.le_of_mul_le_mul_right (c := 2 ^ ((-j).toNat + (j - min i j).toNat)) ?_ (Nat.two_pow_pos _)
    have h2 := Nat.mul_le_mul_right (2 ^ ((-i).toNat + j.toNat)) h
    have l : m * 2 ^ (i - min i j).toNat * 2 ^ ((-i).toNat + j.toNat) = m * 2 ^ i.toNat * 2 ^ ((-j).toNat + (j - min i j).toNat) := by
      rw [Nat.mul_assoc, Nat.mul_assoc, ← Nat.pow_add, ← Nat.pow_add]
      congr 2; omega
    have r : n * 2 ^ (j - min i j).toNat * 2 ^ ((-i).toNat + j.toNat) = c * 2 ^ (-i).toNat * 2 ^ ((-j).toNat + (j - min i j).toNat) := by
      have : n * 2 ^ (j - min i j).toNat * 2 ^ ((-i).toNat + j.toNat) = (n * 2 ^ j.toNat) * 2 ^ ((j - min i j).toNat + (-i).toNat) := by
        rw [Nat.mul_assoc, Nat.mul_assoc, ← Nat.pow_add, ← Nat.pow_add]
        congr 2; omega
      rw [this, hc, Nat.mul_assoc, Nat.mul_assoc, ← Nat.pow_add, ← Nat.pow_add]
      congr 2; omega
    rw [l, r] at h2
    exact h2
  calc m * 2 ^ i.toNat / 2 ^ (-i).toNat ≤ c * 2 ^ (-i).toNat / 2 ^ (-i).toNat := Nat.div_le_div_right e
    _ = c := Nat.mul_div_cancel _ (Nat.two_pow_pos _)

/-- Not above a whole number. -/
theorem le_of_not_gt {s : Bool} {m n : Nat} {i j : Int} {c : Nat} (hc : n * 2 ^ j.toNat = c * 2 ^ (-j).toNat)
    (h : (Datum.number s m i).order (.number false n j) ≠ some .gt) : signed s (whole m i) 0 ≤ c := by
  rw [signed_zero]
  cases s
  · simp only [Bool.false_eq_true, if_false]
    have h1 : m * 2 ^ (i - min i j).toNat ≤ n * 2 ^ (j - min i j).toNat := by
      refine Nat.le_of_not_lt fun hlt => h ?_
      simp only [Datum.order, signed, Bool.false_eq_true, if_false, Nat.shiftLeft_eq]
      congr 1
      rw [compare, instOrdInt]
      show compareOfLessAndEq _ _ = _
      unfold compareOfLessAndEq
      rw [if_neg (by omega), if_neg (by omega)]
    have := whole_le hc h1
    omega
  · simp only [if_true]
    omega

/-- Not below a negative whole number. -/
theorem ge_of_not_lt {s : Bool} {m n : Nat} {i j : Int} {c : Nat} (hc : n * 2 ^ j.toNat = c * 2 ^ (-j).toNat)
    (h : (Datum.number s m i).order (.number true n j) ≠ some .lt) : -(c : Int) ≤ signed s (whole m i) 0 := by
  rw [signed_zero]
  cases s
  · simp only [Bool.false_eq_true, if_false]
    omega
  · simp only [if_true]
    have h1 : m * 2 ^ (i - min i j).toNat ≤ n * 2 ^ (j - min i j).toNat := by
      refine Nat.le_of_not_lt fun hlt => h ?_
      simp only [Datum.order, signed, if_true, Nat.shiftLeft_eq]
      congr 1
      rw [compare, instOrdInt]
      show compareOfLessAndEq _ _ = _
      unfold compareOfLessAndEq
      rw [if_pos (by omega)]
    have := whole_le hc h1
    omega

/-- Below a whole number, without a sign. -/
theorem lt_of_lt {m n : Nat} {i j : Int} {c : Nat} (hc : n * 2 ^ j.toNat = c * 2 ^ (-j).toNat)
    (h : (Datum.number false m i).order (.number false n j) = some .lt) : whole m i < c := by
  refine whole_lt hc ?_
  simp only [Datum.order, signed, Bool.false_eq_true, if_false, Nat.shiftLeft_eq, Option.some.injEq] at h
  rw [compare, instOrdInt] at h
  change compareOfLessAndEq _ _ = _ at h
  unfold compareOfLessAndEq at h
  split at h
  · omega
  · split at h <;> cases h

theorem order_self (d : Datum) (h : d.order d ≠ some .eq) : ∃ s t, d = .nan s t := by
  cases d with
  | nan s t => exact ⟨s, t, rfl⟩
  | infinity s => exact absurd (by cases s <;> rfl) h
  | number s m i =>
    refine absurd ?_ h
    simp only [Datum.order]
    congr 1
    rw [compare, instOrdInt]
    show compareOfLessAndEq _ _ = _
    unfold compareOfLessAndEq
    rw [if_neg (by omega), if_pos rfl]

/-! ## A whole number is written without loss. -/

/-- The rung of a whole number above nought. -/
def rung (q : Nat) : Nat := (q.log2 + 1022) * 2 ^ 52 + q * 2 ^ (52 - q.log2)

theorem top_bounds {q : Nat} (h0 : 0 < q) (h : q < 2 ^ 53) : 2 ^ 52 ≤ q * 2 ^ (52 - q.log2) ∧ q * 2 ^ (52 - q.log2) < 2 ^ 53 ∧ q.log2 ≤ 52 := by
  have l : q.log2 ≤ 52 := by
    have := (Nat.log2_lt (by omega : q ≠ 0)).2 h
    omega
  have a : 2 ^ q.log2 ≤ q := Nat.log2_self_le (by omega)
  have b : q < 2 ^ (q.log2 + 1) := Nat.lt_log2_self
  refine ⟨?_, ?_, l⟩
  · calc 2 ^ 52 = 2 ^ q.log2 * 2 ^ (52 - q.log2) := by rw [← Nat.pow_add]; congr 1; omega
      _ ≤ _ := Nat.mul_le_mul_right _ a
  · calc q * 2 ^ (52 - q.log2) < 2 ^ (q.log2 + 1) * 2 ^ (52 - q.log2) := Nat.mul_lt_mul_of_pos_right b (Nat.two_pow_pos _)
      _ = 2 ^ 53 := by rw [← Nat.pow_add]; congr 1; omega

theorem log2_mul_pow {q : Nat} (h0 : 0 < q) (j : Nat) : (q * 2 ^ j).log2 = q.log2 + j := by
  refine (Nat.log2_eq_iff (Nat.ne_of_gt (Nat.mul_pos h0 (Nat.two_pow_pos _)))).2 ⟨?_, ?_⟩
  · rw [Nat.pow_add]
    exact Nat.mul_le_mul_right _ (Nat.log2_self_le (by omega))
  · rw [show q.log2 + j + 1 = (q.log2 + 1) + j by omega, Nat.pow_add]
    exact Nat.mul_lt_mul_of_pos_right Nat.lt_log2_self (Nat.two_pow_pos _)

theorem cut_even_exact {s : Bool} {k d : Nat} (h0 : 0 < k) (hd : d ≤ k.log2 + d + 2) : Toward.even.cut s (k * 2 ^ d) d = k := by
  have hl := log2_mul_pow h0 d
  unfold Toward.cut
  simp only [hl, Nat.one_shiftLeft]
  rw [Nat.min_eq_left hd]
  have hp := Nat.two_pow_pos d
  rw [Nat.mul_div_cancel _ hp, Nat.mul_mod_left]
  have h1 : decide (2 ^ d < 2 * 0) = false := by simp
  have h2 : (2 ^ d == 2 * 0) = false := by simp
  rw [h1, h2]
  simp

theorem nearest_exact {q : Nat} (s : Bool) (j : Nat) (h0 : 0 < q) (h : q < 2 ^ 53) (hj : j ≤ 1074) : D.nearest s (q * 2 ^ j) (-(j : Int)) = D.word s (rung q) := by
  obtain ⟨hk1, hk2, hl⟩ := top_bounds h0 h
  have hne : q * 2 ^ j ≠ 0 := Nat.ne_of_gt (Nat.mul_pos h0 (Nat.two_pow_pos _))
  unfold Format.nearest
  rw [if_neg hne]
  have hlp : D.leastPlace = -1074 := by decide
  have hfb : D.fractionBits = 52 := rfl
  have hbin : D.binade = 2 ^ 52 := rfl
  have hlast : max (-(j : Int) + (q * 2 ^ j).log2 - (D.fractionBits : Nat)) (-1074) = (q.log2 : Int) - 52 := by
    rw [log2_mul_pow h0, hfb]; omega
  simp only [hlp, hbin]
  rw [hlast]
  have hkept : Toward.even.cut s ((q * 2 ^ j) <<< (-(j : Int) - ((q.log2 : Int) - 52)).toNat) (((q.log2 : Int) - 52) - -(j : Int)).toNat = q * 2 ^ (52 - q.log2) := by
    rw [Nat.shiftLeft_eq]
    have : q * 2 ^ j * 2 ^ (-(j : Int) - ((q.log2 : Int) - 52)).toNat = q * 2 ^ (52 - q.log2) * 2 ^ (((q.log2 : Int) - 52) - -(j : Int)).toNat := by
      rw [Nat.mul_assoc, Nat.mul_assoc, ← Nat.pow_add, ← Nat.pow_add]
      congr 2; omega
    rw [this]
    exact cut_even_exact (by omega) (by omega)
  rw [hkept]
  have hr : (((q.log2 : Int) - 52) - -1074).toNat = q.log2 + 1022 := by omega
  rw [hr]
  have hinf : D.infRung = 2047 * 2 ^ 52 := by decide
  rw [hinf]
  rw [Nat.min_eq_left (by omega)]
  rfl

theorem read_word {q : Nat} (s : Bool) (h0 : 0 < q) (h : q < 2 ^ 53) : D.read (D.word s (rung q)) = .number s (q * 2 ^ (52 - q.log2)) ((q.log2 : Int) - 52) := by
  obtain ⟨hk1, hk2, hl⟩ := top_bounds h0 h
  have hsw : D.signWeight = 2 ^ 63 := rfl
  have hbin : D.binade = 2 ^ 52 := rfl
  have hinf : D.infRung = 2047 * 2 ^ 52 := by decide
  have hlp : D.leastPlace = -1074 := by decide
  generalize hK : q * 2 ^ (52 - q.log2) = K at *
  have hr : rung q = (q.log2 + 1022) * 2 ^ 52 + K := by rw [rung, hK]
  have hr1 : rung q < 2047 * 2 ^ 52 := by rw [hr]; omega
  have hr2 : 2 ^ 52 ≤ rung q := by rw [hr]; omega
  have hmod : rung q % 2 ^ 52 = K - 2 ^ 52 := by rw [hr]; omega
  have hdiv : rung q / 2 ^ 52 = q.log2 + 1023 := by rw [hr]; omega
  have hneg : (D.word s (rung q) / 2 ^ 63 % 2 == 1) = s := by
    cases s
    · show (rung q / 2 ^ 63 % 2 == 1) = false
      rw [Nat.div_eq_of_lt (by omega)]; rfl
    · show ((2 ^ 63 + rung q) / 2 ^ 63 % 2 == 1) = true
      simp; omega
  have hrung : D.word s (rung q) % 2 ^ 63 = rung q := by
    cases s
    · show rung q % 2 ^ 63 = rung q
      omega
    · show (2 ^ 63 + rung q) % 2 ^ 63 = rung q
      omega
  unfold Format.read
  simp only [hsw, hbin, hinf, hlp, hneg, hrung, hmod, hdiv]
  have c1 : ¬ rung q < 2 ^ 52 := by omega
  rw [if_neg c1, if_pos hr1]
  have e1 : 2 ^ 52 + (K - 2 ^ 52) = K := by omega
  have e2 : (-1074 : Int) + ((q.log2 + 1023 - 1 : Nat) : Int) = (q.log2 : Int) - 52 := by omega
  rw [e1, e2]

/-- The word of a whole number of less than 54 bits. -/
def wordOf (k : Int) : Nat := if k = 0 then 0 else D.word (k < 0) (rung k.natAbs)

theorem nearest_int (k : Int) (h : k.natAbs < 2 ^ 53) : FloatKind.f64.nearest k = wordOf k := by
  show D.nearest (k < 0) k.natAbs 0 = _
  unfold wordOf
  by_cases h0 : k = 0
  · subst h0; rfl
  · rw [if_neg h0]
    have := nearest_exact (decide (k < 0)) 0 (by omega : 0 < k.natAbs) h (by omega)
    simpa using this

theorem order_word (k : Int) (h : k.natAbs < 2 ^ 53) : D.order (wordOf k) (wordOf k) = some .eq := by
  unfold Format.order
  refine Classical.byContradiction fun hn => ?_
  obtain ⟨s, t, e⟩ := order_self _ hn
  unfold wordOf at e
  split at e
  · rw [show D.read 0 = .number false 0 (-1074) by decide] at e
    cases e
  · rw [read_word _ (by omega) h] at e
    cases e

/-- What is cut to a whole number, written, and nought added: the whole number's word. -/
theorem cut_add_zero (s : Bool) (q : Nat) (h : q < 2 ^ 53) : D.add (D.write (.number s q 0)) 0 = some (wordOf (signed s q 0)) := by
  unfold Format.add
  have hw : D.write (.number s q 0) = D.nearest s q 0 := rfl
  rw [hw]
  have hz : D.read 0 = .number false 0 (-1074) := by decide
  rw [hz, signed_zero]
  by_cases h0 : q = 0
  · subst h0
    cases s <;> decide
  · have hq : 0 < q := by omega
    obtain ⟨hk1, hk2, hl⟩ := top_bounds hq h
    have hne := nearest_exact s 0 hq h (by omega)
    rw [show q * 2 ^ 0 = q by omega, show -((0 : Nat) : Int) = 0 by rfl] at hne
    rw [hne, read_word s hq h]
    have hb : min ((q.log2 : Int) - 52) (-1074) = -1074 := by omega
    simp only [Datum.sum, hb]
    have ht : (((q.log2 : Int) - 52) - -1074).toNat = q.log2 + 1022 := by omega
    obtain ⟨E, hE⟩ : ∃ E : Nat, E = 1074 := ⟨_, rfl⟩
    have hm : q * 2 ^ (52 - q.log2) * 2 ^ (q.log2 + 1022) = q * 2 ^ E := by
      rw [Nat.mul_assoc, ← Nat.pow_add, show 52 - q.log2 + (q.log2 + 1022) = E by omega]
    have hp : 0 < q * 2 ^ E := Nat.mul_pos hq (Nat.two_pow_pos _)
    simp only [signed, ht, Nat.shiftLeft_eq, hm, Bool.false_eq_true, if_false, Nat.zero_mul, Int.natCast_zero, Int.add_zero]
    have hx := nearest_exact s E hq h (by omega)
    generalize hQ : q * 2 ^ E = Q at *
    simp only [Option.map_some, Option.some.injEq]
    cases s
    · simp only [Bool.false_eq_true, if_false]
      rw [if_neg (by omega)]
      have h1 : decide ((Q : Int) < 0) = false := by rw [decide_eq_false_iff_not]; omega
      rw [h1, Int.natAbs_natCast]
      show D.nearest false Q (-1074) = _
      rw [show (-1074 : Int) = -((E : Nat) : Int) by omega, hx]
      unfold wordOf
      rw [if_neg (by omega)]
      have h2 : decide ((q : Int) < 0) = false := by rw [decide_eq_false_iff_not]; omega
      rw [h2, Int.natAbs_natCast]
    · simp only [if_true]
      rw [if_neg (by omega)]
      have h1 : decide (-(Q : Int) < 0) = true := by rw [decide_eq_true_eq]; omega
      rw [h1, Int.natAbs_neg, Int.natAbs_natCast]
      show D.nearest true Q (-1074) = _
      rw [show (-1074 : Int) = -((E : Nat) : Int) by omega, hx]
      unfold wordOf
      rw [if_neg (by omega)]
      have h2 : decide (-(q : Int) < 0) = true := by rw [decide_eq_true_eq]; omega
      rw [h2, Int.natAbs_neg, Int.natAbs_natCast]

end Go.Proofs.YtdcfbgpcpjjjaaaGreat.Fl
