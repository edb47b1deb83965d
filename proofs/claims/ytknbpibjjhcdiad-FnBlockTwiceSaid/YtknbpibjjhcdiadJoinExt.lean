/-
  strings.Join in the form that the printed callers want: a function on lists, and its contract out of the shelf's.
-/
import Derived.Test.YtknbpibjjhcdiadShelf
import Derived.Test.YtknbpibjjhcdiadWMore
namespace Go.Proofs.Ytknbpibjjhcdiad
open Go.RowKit Go.Proofs.YtknbpibjjhcdiadW.PrintWords Go.Proofs.YtknbpibjjhcdiadW.PrintLast Go.Proofs.YtknbpibjjhcdiadW.PrintMore

/-- The elements' bytes, with the separator's between each two. -/
def joinBytes (l : List ByteArray) (sep : ByteArray) : List UInt8 := Lib.join (l.map (·.data.toList)) sep.data.toList
def strings_Join.f (l : List ByteArray) (sep : ByteArray) : Option ByteArray :=
  if l.length ≤ 140737488355328 ∧ (joinBytes l sep).length ≤ 140737488355328 then some ⟨(joinBytes l sep).toArray⟩ else none

theorem strings_Join.calls (A0 : Option Addr) (c0 : Nat) (l0 : List ByteArray) (a1 : ByteArray) (r : ByteArray) (w : World) (hr0 : Kd.C Kd.string w A0 l0.length l0) (hc0 : l0.length ≤ c0) (h : strings_Join.f l0 a1 = some r) :
    Calls Try.prog 19 #[.slice A0 l0.length c0, .string a1] w fun e w' => e = .returned (.string r) ∧ Below w.heap.size w w' := by
  unfold strings_Join.f at h
  split at h
  · rename_i hb
    obtain rfl := Option.some.inj h
    obtain ⟨hl, hj⟩ := hb
    by_cases h0 : l0 = []
    · subst h0
      refine (Try.strings_Join_none A0 c0 a1 w).mono ?_
      rintro e w' ⟨rfl, rfl⟩
      exact ⟨rfl, Below.refl _ _⟩
    · have hpos : 0 < l0.length := List.length_pos_iff.2 h0
      have hat := fun (j : Nat) (hj : j < l0.length) => Kd.at_string hr0 (j : Int) (by omega) (by omega)
      obtain ⟨ad, rfl, hx⟩ := hat 0 hpos
      have hsp : ad.spot = none := by
        rcases ad with ⟨b, o, s⟩
        cases s with
        | none => rfl
        | some s =>
          simp [World.cell?, Addr.add] at hx
          split at hx <;> cases hx
      rcases ad with ⟨b, o, s⟩
      simp only at hsp
      subst hsp
      refine Try.strings_Join b o c0 l0 a1 w (fun j x hjx => ?_) ?_ hl hc0 hj
      · have hlt : j < l0.length := (List.getElem?_eq_some_iff.1 hjx).1
        obtain ⟨ad', e', hx'⟩ := hat j hlt
        cases e'
        rw [Int.toNat_natCast] at hx'
        have he : (⟨b, o, none⟩ : Addr).add j = ⟨b, o + j, none⟩ := by unfold Addr.add; split <;> simp_all
        rw [he] at hx'
        rw [hx']
        unfold rdOf
        rw [Int.toNat_natCast, List.getD_eq_getElem?_getD, hjx]
        rfl
      · exact World.block_lt_of_cell? w _ hx
  · cases h

end Go.Proofs.Ytknbpibjjhcdiad
