/-
  The package's parser: names and named types, walked.
-/
import Derived.Test.YtbobbognjmofdaaGreatDoorPrG
namespace Go.Proofs.YtbobbognjmofdaaGreatDoor.Lex
open Go.RowKit Go.Proofs.YtbobbognjmofdaaGreatDoorW.PrintWords Go.Proofs.YtbobbognjmofdaaGreatDoorW.PrintLast Go.Proofs.YtbobbognjmofdaaGreatDoorW.PrintMore
open Go.Proofs.YtbobbognjmofdaaGreatDoor.Ptext
set_option linter.unusedVariables false
set_option linter.unusedSimpArgs false
/-- A name in memory. -/
def NameAt (W : World) (r : Nat) (n : ByteArray) : Prop := ∃ k u, W.heap[r]? = some (.cells #[.string k, u, .string n] 222 (0, 0))
/-- What comes of a name. -/
def Named (E : PE) (W1 : World) (t : S24) (N : Option S24) (e : Ending) (w' : World) : Prop :=
  match N with
  | none => ∃ q, e = .returned (.tuple #[.pointer none, .iface 182 (.pointer (some ⟨q, 0, none⟩))])
  | some t' => (∃ r, e = .returned (.tuple #[.pointer (some ⟨r, 0, none⟩), .nilIface]) ∧ NameAt w' r t.f1) ∧ Pk E W1 w' t' t.f3
set_option maxHeartbeats 4000000 in
theorem parseName_any (E : PE) (W1 w : World) (t : S24) (pe : Int) (N : Option S24) (K : Nat) (h : Pk E W1 w t pe) (h0 : 0 ≤ t.f3) (h1 : t.f3 ≤ E.s.size) (hK : (E.s.size : Int) < t.f3 + K) (hN : nxt E.s K t.f3 false = (N, false)) (hk : t.f0 = 15) :
    Calls Tryz.prog 152 #[.pointer (some ⟨E.P, 0, none⟩)] w fun e w' => Named E W1 t N e w' ∧ Adv E w w' := by
  have hx := expect_yes E W1 w t pe N K h h0 h1 hK hN
  rw [hk] at hx
  have HX := Aside0.mk hx
  clear h hN hx
  obtain ⟨t0, t1, t2, t3⟩ := t
  have hk : t0 = 15 := hk
  subst hk
  go_enter Tryz.func152, Tryz.ntmps152
  go_wp2_with fail
  refine HX.out.mono ?_
  rintro e w2 ⟨h2, ad⟩
  have AD := Aside0.mk ad
  clear ad
  cases N with
  | none =>
    obtain ⟨q, rfl⟩ := h2
    go_wp2_with fail
    go_ret2
    exact ⟨⟨q, rfl⟩, AD.out.trans (Adv.of_below (below_alloc (Below.refl _ _) _))⟩
  | some t' =>
    obtain ⟨rfl, hp⟩ := h2
    have HP := Aside0.mk hp
    clear hp
    go_wp2_with fail
    obtain ⟨W2, hW2⟩ : ∃ W2, W2 = w2.alloc (.cells #[.int .i64 15, .int .i64 t2, .int .i64 t3, .string t1] 58) := ⟨_, rfl⟩
    have hE : W2.heap[w2.heap.size]? = some (.cells #[.int .i64 15, .int .i64 t2, .int .i64 t3, .string t1] 58 (0, 0)) := by rw [hW2]; exact blk_new _ _
    have hB : Below w2.heap.size w2 W2 := by rw [hW2]; exact below_alloc (Below.refl _ _) _
    rw [← hW2]
    clear hW2
    have HB2 := Aside0.mk hB
    have HE := Aside0.mk hE
    have HLC := Aside0.mk (fun W (hb : Below W2.heap.size W2 W) => loc_any E W1 W t' t3 t2 ((HP.out.keep hB).keep hb))
    have k1 := (blk_cell hE 1).trans rfl
    have k3 := (blk_cell hE 3).trans rfl
    have hl2 := blk_lt hE
    clear hE hB
    go_region_with (first | (go_at_call 118; refine (HLC.out _ ?_).mono ?_; (first | exact below_drew (Below.refl _ _)); rintro e w3 ⟨⟨p, rfl, hp⟩, hb3⟩; have hB3 : Below W2.heap.size W2 w3 := (below_drew (Below.refl W2.heap.size W2)).trans hb3; have e3 := blk_below HE.out hB3; have j1 := (blk_cell e3 1).trans rfl; have j3 := (blk_cell e3 3).trans rfl; have HB3 := Aside0.mk hB3; have HL3 := Aside0.mk hp; clear hb3 hB3 e3 hp) | (go_at_call 178; refine (newName_any _ _ _ _ _ (blk_new _ _)).mono ?_; rintro e w4 ⟨rfl, rfl⟩))
    all_goals
      go_wp2_with fail
      go_ret2
      have hb3 : Below w2.heap.size w2 w3 := HB2.out.trans (HB3.out.mono HB2.out.size)
      have hz3 : w2.heap.size ≤ w3.heap.size := hb3.size
      first
      | exact ⟨⟨⟨_, rfl, ⟨_, _, blk_new _ _⟩⟩, HP.out.keep (hb3.alloc hz3 _)⟩, AD.out.trans (Adv.of_below (hb3.alloc hz3 _))⟩
      | exact ⟨⟨⟨_, rfl, ⟨_, _, (blk_set (blk_new _ _) 0 _).trans rfl⟩⟩, HP.out.keep ((hb3.alloc hz3 _).setCell hz3 _)⟩, AD.out.trans (Adv.of_below ((hb3.alloc hz3 _).setCell hz3 _))⟩
theorem LocAt.below {W W1 : World} {p : Nat} (h : LocAt W p) (hb : Below W.heap.size W W1) : LocAt W1 p := by
  obtain ⟨a, b, u, h⟩ := h
  exact ⟨a, b, u, blk_below h hb⟩
theorem NameAt.below {W W1 : World} {p : Nat} {n : ByteArray} (h : NameAt W p n) (hb : Below W.heap.size W W1) : NameAt W1 p n := by
  obtain ⟨a, b, h⟩ := h
  exact ⟨a, b, blk_below h hb⟩
/-- A named type in memory. -/
def NamedAt (W : World) (r : Nat) (n : ByteArray) : Prop := ∃ k q x, W.heap[r]? = some (.cells #[.string k, .pointer (some ⟨q, 0, none⟩), .pointer (some ⟨x, 0, none⟩)] 131 (0, 0)) ∧ LocAt W q ∧ NameAt W x n
/-- What comes of a named type. -/
def NamedT (E : PE) (W1 : World) (t : S24) (N : Option S24) (e : Ending) (w' : World) : Prop :=
  match N with
  | none => ∃ q, e = .returned (.tuple #[.pointer none, .iface 182 (.pointer (some ⟨q, 0, none⟩))])
  | some t' => (∃ r, e = .returned (.tuple #[.pointer (some ⟨r, 0, none⟩), .nilIface]) ∧ NamedAt w' r t.f1) ∧ Pk E W1 w' t' t.f3
set_option maxHeartbeats 4000000 in
theorem parseNamed_any (E : PE) (W1 w : World) (t : S24) (pe : Int) (N : Option S24) (K : Nat) (h : Pk E W1 w t pe) (h0 : 0 ≤ t.f3) (h1 : t.f3 ≤ E.s.size) (hK : (E.s.size : Int) < t.f3 + K) (hN : nxt E.s K t.f3 false = (N, false)) (hk : t.f0 = 15) :
    Calls Tryz.prog 119 #[.pointer (some ⟨E.P, 0, none⟩)] w fun e w' => NamedT E W1 t N e w' ∧ Adv E w w' := by
  have HX := Aside0.mk (parseName_any E W1 w t pe N K h h0 h1 hK hN hk)
  have c6 := (blk_cell h.parser 6).trans rfl
  clear h hN hk
  obtain ⟨t0, t1, t2, t3⟩ := t
  go_enter Tryz.func119, Tryz.ntmps119
  go_wp2_with fail
  refine HX.out.mono ?_
  rintro e w2 ⟨h2, ad⟩
  have AD := Aside0.mk ad
  clear ad
  cases N with
  | none =>
    obtain ⟨q, rfl⟩ := h2
    go_wp2_with fail
    go_ret2
    exact ⟨⟨q, rfl⟩, AD.out⟩
  | some t' =>
    obtain ⟨⟨x, rfl, hx⟩, hp⟩ := h2
    have HP := Aside0.mk hp
    have HX2 := Aside0.mk hx
    clear hp hx
    go_wp2_with fail
    refine (loc_any E W1 w2 t' t3 t2 HP.out).mono ?_
    rintro e w3 ⟨⟨q, rfl, hq⟩, hb3⟩
    have HQ := Aside0.mk hq
    have HB3 := Aside0.mk hb3
    clear hq hb3
    go_wp2_with fail
    refine (newNamed_any w3.heap.size ⟨#[]⟩ (.pointer (some ⟨q, 0, none⟩)) (.pointer (some ⟨x, 0, none⟩)) _ (blk_new _ _)).mono ?_
    rintro e w4 ⟨rfl, rfl⟩
    go_wp2_with fail
    go_ret2
    have hz3 : w2.heap.size ≤ w3.heap.size := HB3.out.size
    have hba : ∀ o : Obj, Below w3.heap.size w3 (w3.alloc o) := fun o => below_alloc (Below.refl _ _) o
    first
    | exact ⟨⟨⟨_, rfl, ⟨_, q, x, blk_new _ _, HQ.out.below (hba _), HX2.out.below (HB3.out.alloc hz3 _)⟩⟩, HP.out.keep (HB3.out.alloc hz3 _)⟩, AD.out.trans (Adv.of_below (HB3.out.alloc hz3 _))⟩
    | exact ⟨⟨⟨_, rfl, ⟨_, q, x, (blk_set (blk_new _ _) 0 _).trans rfl, HQ.out.below ((hba _).setCell (Nat.le_refl _) _), HX2.out.below ((HB3.out.alloc hz3 _).setCell hz3 _)⟩⟩, HP.out.keep ((HB3.out.alloc hz3 _).setCell hz3 _)⟩, AD.out.trans (Adv.of_below ((HB3.out.alloc hz3 _).setCell hz3 _))⟩
end Go.Proofs.YtbobbognjmofdaaGreatDoor.Lex
