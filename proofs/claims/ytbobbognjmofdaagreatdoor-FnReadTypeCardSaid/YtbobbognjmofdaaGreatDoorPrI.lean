/-
  Types: the reference's reading where it is sure; types in memory. Plain words.
-/
import Derived.Test.YtbobbognjmofdaaGreatDoorPrC
import Derived.Test.YtbobbognjmofdaaGreatDoorPrH
namespace Go.Proofs.YtbobbognjmofdaaGreatDoor.Lex
open Go.RowKit Go.Proofs.YtbobbognjmofdaaGreatDoorW.PrintWords Go.Proofs.YtbobbognjmofdaaGreatDoorW.PrintLast Go.Proofs.YtbobbognjmofdaaGreatDoorW.PrintMore
open Go.Proofs.YtbobbognjmofdaaGreatDoor.Ptext
set_option linter.unusedVariables false
set_option linter.unusedSimpArgs false
theorem PS.failed_uns (x : PS) : x.failed.unsure = x.unsure := by unfold PS.failed; split <;> rfl
theorem PS.failed_bad (x : PS) : x.failed.bad = true := by
  unfold PS.failed
  split
  · assumption
  · rfl
theorem PS.took_uns (l : List S24) (x : PS) (k : Int) : (x.took l k).unsure = x.unsure := by unfold PS.took; split <;> rfl
theorem PS.musted_uns (l : List S24) (x : PS) (k : Int) : (x.musted l k).unsure = x.unsure := by unfold PS.musted; split; rfl; exact PS.failed_uns x
theorem PS.named_uns (l : List S24) (x : PS) : (x.named l).2.unsure = x.unsure := by unfold PS.named; split; rfl; exact PS.failed_uns x
theorem PS.noType_uns (l : List S24) (x : PS) (h : x.unsure = true) : (x.noType l).unsure = true := by unfold PS.noType; split; rfl; exact h
theorem PS.entered_uns (x : PS) (h : x.unsure = true) : x.entered.unsure = true := by
  unfold PS.entered
  split
  · rw [PS.failed_uns]
  · exact h
theorem typd_uns (l : List S24) : ∀ (n : Nat) (x : PS), x.unsure = true → (typd n l x).2.unsure = true
  | 0, x, h => h
  | n + 1, x, h => by
    rw [typd]
    split
    · exact PS.entered_uns x h
    · unfold typE PS.left
      show (PS.took l _ 2).unsure = true
      rw [PS.took_uns]
      have hn := PS.noType_uns l _ (PS.entered_uns x h)
      split
      · show (PS.musted l _ 11).unsure = true
        rw [PS.musted_uns]
        show ((typd n l _).2.unsure || _) = true
        rw [typd_uns l n _ (by rw [PS.took_uns]; exact hn)]
        rfl
      · show (PS.named l _).2.unsure = true
        rw [PS.named_uns]
        exact hn
/-- A type where the reference is sure of it: what it begins with, and how it goes on. -/
theorem typd_sure {l : List S24} {n : Nat} {x : PS} (hb : x.bad = false) (h : (typd (n + 1) l x).2.unsure = false) :
    x.deep + 1 ≤ 60 ∧ ((kd l x.at_ = 10 ∧ (typd n l ⟨x.at_ + 1, x.deep + 1, x.wrong, false, x.unsure⟩).2.unsure = false ∧ kd l (typd n l ⟨x.at_ + 1, x.deep + 1, x.wrong, false, x.unsure⟩).2.at_ = 11 ∧
        typd (n + 1) l x = typE l (made (nd 21 ⟨#[]⟩) [(typd n l ⟨x.at_ + 1, x.deep + 1, x.wrong, false, x.unsure⟩).1], (typd n l ⟨x.at_ + 1, x.deep + 1, x.wrong, false, x.unsure⟩).2.musted l 11)) ∨
      (kd l x.at_ = 15 ∧ typd (n + 1) l x = typE l (made (nd 20 (rd_T24 l x.at_).f1) [], ⟨x.at_ + 1, x.deep + 1, x.wrong, false, x.unsure⟩))) := by
  obtain ⟨xa, xd, xw, xb, xu⟩ := x
  obtain rfl : xb = false := hb
  have hd : xd + 1 ≤ 60 := by
    rcases Int.lt_or_le 60 (xd + 1) with hgt | hle
    · exfalso
      have he : PS.entered ⟨xa, xd, xw, false, xu⟩ = PS.failed ⟨xa, xd + 1, xw, false, true⟩ := by unfold PS.entered; rw [if_pos hgt]
      rw [typd, he, if_pos (PS.failed_bad _)] at h
      rw [PS.failed_uns] at h
      cases h
    · exact hle
  have he : PS.entered ⟨xa, xd, xw, false, xu⟩ = ⟨xa, xd + 1, xw, false, xu⟩ := by unfold PS.entered; rw [if_neg (by show ¬ (xd + 1 > 60); omega)]
  have hty : typd (n + 1) l ⟨xa, xd, xw, false, xu⟩ = typE l (if ((PS.mk xa (xd + 1) xw false xu).noType l).takes l 10 = true then typB l (typd n l (((PS.mk xa (xd + 1) xw false xu).noType l).took l 10)) else typN l ((PS.mk xa (xd + 1) xw false xu).noType l)) := by
    rw [typd, he, if_neg (by show ¬ (false = true); decide)]
  rw [hty] at h
  refine ⟨hd, ?_⟩
  show (kd l xa = 10 ∧ _) ∨ (kd l xa = 15 ∧ _)
  by_cases k10 : kd l xa = 10
  · left
    have hn : (PS.mk xa (xd + 1) xw false xu).noType l = ⟨xa, xd + 1, xw, false, xu⟩ := by unfold PS.noType; rw [if_neg (by show ¬ (kd l xa ≠ 10 ∧ kd l xa ≠ 15); omega)]
    have ht : (PS.mk xa (xd + 1) xw false xu).takes l 10 = true := by show (!false && kd l xa == 10) = true; rw [k10]; rfl
    have htk : (PS.mk xa (xd + 1) xw false xu).took l 10 = ⟨xa + 1, xd + 1, xw, false, xu⟩ := by unfold PS.took; rw [if_pos ht]
    rw [hn, if_pos ht, htk] at h hty
    refine ⟨k10, ?_⟩
    show (typd n l ⟨xa + 1, xd + 1, xw, false, xu⟩).2.unsure = false ∧ kd l (typd n l ⟨xa + 1, xd + 1, xw, false, xu⟩).2.at_ = 11 ∧ _ = typE l (made (nd 21 ⟨#[]⟩) [(typd n l ⟨xa + 1, xd + 1, xw, false, xu⟩).1], (typd n l ⟨xa + 1, xd + 1, xw, false, xu⟩).2.musted l 11)
    obtain ⟨q, hq⟩ : ∃ q, q = typd n l ⟨xa + 1, xd + 1, xw, false, xu⟩ := ⟨_, rfl⟩
    rw [← hq] at h hty ⊢
    have hu : ((q.2.noEnd l 11).musted l 11).unsure = false := by
      have : ((((q.2.noEnd l 11).musted l 11).took l 2).left).unsure = false := h
      have e : ((((q.2.noEnd l 11).musted l 11).took l 2).left).unsure = (((q.2.noEnd l 11).musted l 11).took l 2).unsure := rfl
      rwa [e, PS.took_uns] at this
    rw [PS.musted_uns] at hu
    have hu : (q.2.unsure || (kd l q.2.at_ != 11)) = false := hu
    simp only [Bool.or_eq_false_iff, bne_eq_false_iff_eq] at hu
    have hne : q.2.noEnd l 11 = q.2 := by
      unfold PS.noEnd
      rw [hu.2]
      obtain ⟨q1, ⟨a, b, c, d, e⟩⟩ := q
      simp
    refine ⟨hu.1, hu.2, ?_⟩
    rw [hty]
    unfold typB
    rw [hne]
  · by_cases k15 : kd l xa = 15
    · right
      have hn : (PS.mk xa (xd + 1) xw false xu).noType l = ⟨xa, xd + 1, xw, false, xu⟩ := by unfold PS.noType; rw [if_neg (by show ¬ (kd l xa ≠ 10 ∧ kd l xa ≠ 15); omega)]
      have ht : ¬ (PS.mk xa (xd + 1) xw false xu).takes l 10 = true := by show ¬ (!false && kd l xa == 10) = true; rw [k15]; decide
      have htk : (PS.mk xa (xd + 1) xw false xu).named l = ((rd_T24 l xa).f1, ⟨xa + 1, xd + 1, xw, false, xu⟩) := by unfold PS.named; rw [if_pos (by show (!false && kd l xa == 15) = true; rw [k15]; rfl)]
      rw [hn, if_neg ht] at hty
      unfold typN at hty
      rw [htk] at hty
      exact ⟨k15, hty⟩
    · exfalso
      have hn : (PS.mk xa (xd + 1) xw false xu).noType l = ⟨xa, xd + 1, xw, false, true⟩ := by unfold PS.noType; rw [if_pos ⟨k10, k15⟩]
      have ht : ¬ (PS.mk xa (xd + 1) xw false true).takes l 10 = true := by show ¬ (!false && kd l xa == 10) = true; simp [k10]
      rw [hn, if_neg ht] at h
      have h : (((PS.mk xa (xd + 1) xw false true).named l).2.took l 2).left.unsure = false := h
      have e : (((PS.mk xa (xd + 1) xw false true).named l).2.took l 2).left.unsure = (((PS.mk xa (xd + 1) xw false true).named l).2.took l 2).unsure := rfl
      rw [e, PS.took_uns, PS.named_uns] at h
      cases h
/-- A type. -/
inductive Ty where
  | named (n : ByteArray)
  | list (t : Ty)
  | must (t : Ty)
def Ty.nodes : Ty → List S50
  | .named n => made (nd 20 n) []
  | .list t => made (nd 21 ⟨#[]⟩) [t.nodes]
  | .must t => made (nd 22 ⟨#[]⟩) [t.nodes]
/-- A type in memory. -/
def RepT (W : World) : Ty → Value → Prop
  | .named n, v => ∃ p, v = .iface 126 (.pointer (some ⟨p, 0, none⟩)) ∧ NamedAt W p n
  | .list t, v => ∃ p k q u, v = .iface 133 (.pointer (some ⟨p, 0, none⟩)) ∧ W.heap[p]? = some (.cells #[.string k, .pointer (some ⟨q, 0, none⟩), u] 135 (0, 0)) ∧ LocAt W q ∧ RepT W t u
  | .must t, v => ∃ p k q u, v = .iface 136 (.pointer (some ⟨p, 0, none⟩)) ∧ W.heap[p]? = some (.cells #[.string k, .pointer (some ⟨q, 0, none⟩), u] 137 (0, 0)) ∧ LocAt W q ∧ RepT W t u
theorem RepT.iface {W : World} {ty : Ty} {v : Value} (h : RepT W ty v) : ∃ T x, v = .iface T x := by
  cases ty with
  | named n => obtain ⟨p, rfl, -⟩ := h; exact ⟨_, _, rfl⟩
  | list t => obtain ⟨p, k, q, u, rfl, -⟩ := h; exact ⟨_, _, rfl⟩
  | must t => obtain ⟨p, k, q, u, rfl, -⟩ := h; exact ⟨_, _, rfl⟩
/-- What stays of the nodes of types: blocks of these types. -/
def KeepT (W W1 : World) : Prop := ∀ (k T : Nat) (cs : Array Value), W.heap[k]? = some (.cells cs T (0, 0)) → T ≠ 125 → T ≠ 3 → W1.heap[k]? = some (.cells cs T (0, 0))
theorem KeepT.of_below {W W1 : World} (h : Below W.heap.size W W1) : KeepT W W1 := fun k T cs hk _ _ => blk_below hk h
theorem KeepT.of_adv {E : PE} {W0 W W1 : World} {t : S24} {pe : Int} (hp : Pk E W0 W t pe) (h : Adv E W W1) : KeepT W W1 := fun k T cs hk h1 h2 => h.typed hp hk h1 h2
theorem LocAt.keep {W W1 : World} {p : Nat} (h : LocAt W p) (hb : KeepT W W1) : LocAt W1 p := by
  obtain ⟨a, b, u, h⟩ := h
  exact ⟨a, b, u, hb _ _ _ h (by decide) (by decide)⟩
theorem NamedAt.keep {W W1 : World} {p : Nat} {n : ByteArray} (h : NamedAt W p n) (hb : KeepT W W1) : NamedAt W1 p n := by
  obtain ⟨k, q, x, h, hq, k2, u2, hx⟩ := h
  exact ⟨k, q, x, hb _ _ _ h (by decide) (by decide), hq.keep hb, k2, u2, hb _ _ _ hx (by decide) (by decide)⟩
theorem RepT.keep {W W1 : World} (hb : KeepT W W1) : ∀ {ty : Ty} {v : Value}, RepT W ty v → RepT W1 ty v
  | .named n, v, ⟨p, e, h⟩ => ⟨p, e, h.keep hb⟩
  | .list t, v, ⟨p, k, q, u, e, h, hq, hu⟩ => ⟨p, k, q, u, e, hb _ _ _ h (by decide) (by decide), hq.keep hb, RepT.keep hb hu⟩
  | .must t, v, ⟨p, k, q, u, e, h, hq, hu⟩ => ⟨p, k, q, u, e, hb _ _ _ h (by decide) (by decide), hq.keep hb, RepT.keep hb hu⟩
theorem typE_no {l : List S24} {o : List S50} {y : PS} (h : kd l y.at_ ≠ 2) : typE l (o, y) = (o, y.left) := by
  have ht : y.takes l 2 = false := by unfold PS.takes; simp [h]
  unfold typE PS.took
  simp [ht]
theorem typE_yes {l : List S24} {o : List S50} {y : PS} (hb : y.bad = false) (h : kd l y.at_ = 2) : typE l (o, y) = (made (nd 22 ⟨#[]⟩) [o], ⟨y.at_ + 1, y.deep - 1, y.wrong, false, y.unsure⟩) := by
  have ht : y.takes l 2 = true := by unfold PS.takes; rw [hb, h]; rfl
  unfold typE PS.took PS.left
  simp [ht, hb]
theorem typE_bad {l : List S24} {o : List S50} {y : PS} (hb : y.bad = true) : (typE l (o, y)).2.bad = true := by
  have ht : y.takes l 2 = false := by unfold PS.takes; rw [hb]; rfl
  unfold typE PS.took PS.left
  simp [ht, hb]
/-- The reference refuses: a token, or the text behind its last token. -/
def Refd (l : List S24) (bad : Bool) (x : PS) : Prop := x.bad = true ∨ (bad = true ∧ x.at_ = l.length)
/-- What comes of a type. -/
def TypeT (E : PE) (W1 : World) (l : List S24) (bad : Bool) (r : List S50 × PS) (e : Ending) (w' : World) : Prop :=
  (Refd l bad r.2 ∧ ∃ q, e = .returned (.tuple #[.nilIface, .iface 182 (.pointer (some ⟨q, 0, none⟩))])) ∨
  (r.2.bad = false ∧ ∃ (v : Value) (ty : Ty) (t' : S24) (pe' : Int) (j : Nat), e = .returned (.tuple #[v, .nilIface]) ∧ RepT w' ty v ∧ r.1 = ty.nodes ∧ r.2.at_ = j ∧ At E.s l bad j t' ∧ Pk E W1 w' t' pe')
theorem kd_end {l : List S24} {i : Int} (h : i = l.length) : kd l i = 1 := by unfold kd; rw [if_neg (by omega)]
end Go.Proofs.YtbobbognjmofdaaGreatDoor.Lex
