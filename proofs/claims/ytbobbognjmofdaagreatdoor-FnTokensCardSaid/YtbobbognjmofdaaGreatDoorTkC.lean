/-
  FnTokens: the thin package's Tokens, walked.
-/
import Derived.Test.YtbobbognjmofdaaGreatDoorTkB
namespace Go.Proofs.YtbobbognjmofdaaGreatDoor.Lex
open Go.RowKit Go.Proofs.YtbobbognjmofdaaGreatDoorW.PrintWords Go.Proofs.YtbobbognjmofdaaGreatDoorW.PrintLast Go.Proofs.YtbobbognjmofdaaGreatDoorW.PrintMore
open Go.Proofs.YtbobbognjmofdaaGreatDoor.Ptext
set_option linter.unusedVariables false
set_option linter.unusedSimpArgs false
theorem k24_E3 : ∀ q, q ∈ 24 :: k24.E → q ≠ 3 := by
  simp [k24, Kd.iso, Kd.pair, Kd.int, Kd.string, Kd.scalar]
/-- What the loop keeps: the lexer's place, its source, the tokens so far. -/
structure Kp (s : ByteArray) (R : List S24 × Bool × Bool) (w1 wr : World) (g sb pb : Nat) (kq : Nat) (p : Int) (l : List S24) (v : Value) : Prop where
  p0 : 0 ≤ p
  p1 : p ≤ s.size
  len : (l.length : Int) ≤ p
  fuel : (s.size : Int) < p + kq
  run : ∃ k : Nat, (s.size : Int) < p + k ∧ lexd s k p false l = R
  place : wr.heap[pb]? = some (.cells #[.int .i64 p] 3 (0, 0))
  source : wr.heap[sb]? = some (.cells #[.pointer (some ⟨g, 0, none⟩)] 72 (0, 0))
  below : Below w1.heap.size w1 wr
  row : Kd.R k24 24 wr w1.heap.size (fun _ => True) v l
  pb1 : w1.heap.size ≤ pb
  sb1 : w1.heap.size ≤ sb
  ne : sb ≠ pb
/-- What is kept behind a call of the lexer that has a token. -/
theorem Kp.moved {s : ByteArray} {R : List S24 × Bool × Bool} {w1 wr w2 : World} {g sb pb kq : Nat} {p : Int} {l : List S24} {v : Value} (h : Kp s R w1 wr g sb pb kq p l v) {t : S24} (hm : Moved pb (some t) wr w2) :
    w2.heap[pb]? = some (.cells #[.int .i64 t.f3] 3 (0, 0)) ∧ w2.heap[sb]? = some (.cells #[.pointer (some ⟨g, 0, none⟩)] 72 (0, 0)) ∧ Below w1.heap.size w1 w2 ∧ Kd.R k24 24 w2 w1.heap.size (fun _ => True) v l := by
  have hm : Below wr.heap.size (wr.setCell ⟨pb, 0, none⟩ (.int .i64 t.f3)) w2 := hm
  have hz : (wr.setCell ⟨pb, 0, none⟩ (.int .i64 t.f3)).heap.size = wr.heap.size := by simp
  refine ⟨?_, ?_, ?_, ?_⟩
  · exact (hm.block pb (blk_lt h.place)).trans (blk_set h.place 0 _)
  · exact (hm.block sb (blk_lt h.source)).trans ((Below.heap_setCell wr ⟨pb, 0, none⟩ _ sb h.ne).trans h.source)
  · exact (h.below.setCell (p := ⟨pb, 0, none⟩) h.pb1 _).trans (hm.mono h.below.size)
  · exact Kd.R_below (Kd.R_set h.row h.place k24_E3 0 _) (by rw [hz]; exact hm)
set_option maxHeartbeats 4000000 in
theorem implTokens_any (s : ByteArray) (l0 : List S24) (b0 : Bool) (w : World) (hs : s.size ≤ 2000) (hT : Lib.Utf8Tabs 1 2 w) (hR : lexR s = (l0, b0, false)) :
    Calls Tryz.prog 18 #[.string s] w fun e w' => (∃ v, e = .returned (.tuple #[v, .bool (!b0)]) ∧ Kd.R k24 24 w' w.heap.size (fun _ => True) v (if b0 = true then [] else l0)) ∧ Below w.heap.size w w' := by
  have HT := Aside0.mk hT
  have HR := Aside0.mk hR
  have HPT := Aside0.mk (fun p h1 h2 => (pt_tells s (by omega) p h1 h2).2)
  clear hT hR
  have kb := fun W => print_bytes (P := Tryz.prog) 9 74 5 Tryz.underlying9 Tryz.underlying74 Tryz.underlying5 s W
  go_enter Tryz.func18, Tryz.ntmps18
  go_wp2_with fail
  have hS := src_bytes w s hs HT.out
  have hB0 : Below w.heap.size w (Lib.bytesWorld w 5 s) := bytes_below (Below.refl w.heap.size w) (Nat.le_refl _) 5 s
  obtain ⟨W0, hW0⟩ : ∃ W0, W0 = Lib.bytesWorld w 5 s := ⟨_, rfl⟩
  rw [← hW0] at hS hB0 ⊢
  clear hW0
  have HB0 := Aside0.mk hB0
  obtain ⟨W1, hW1⟩ : ∃ W1, W1 = W0.alloc (.cells #[.slice (some ⟨w.heap.size, 0, none⟩) s.size (grownCap w s.size 0 5), .string ⟨#[]⟩] 76) := ⟨_, rfl⟩
  have hN1 : W1.heap[W0.heap.size]? = some (.cells #[.slice (some ⟨w.heap.size, 0, none⟩) s.size (grownCap w s.size 0 5), .string ⟨#[]⟩] 76 (0, 0)) := by rw [hW1]; exact blk_new _ _
  have hB1 : Below W0.heap.size W0 W1 := by rw [hW1]; exact below_alloc (Below.refl _ _) _
  rw [← hW1]
  clear hW1
  have HS0 := Aside0.mk hS
  have HB1 := Aside0.mk hB1
  clear hS hB0 hB1
  refine (newSource_any W0.heap.size _ W1 hN1).mono ?_
  rintro e w1 ⟨rfl, hc1, hb1, hz1⟩
  have hBw : Below W0.heap.size W0 w1 := HB1.out.trans hb1
  have HS1 := Aside0.mk (HS0.out.below hBw)
  have HBw := Aside0.mk (HB0.out.trans (hBw.mono HB0.out.size))
  have HC1 := Aside0.mk hc1
  clear hc1 hb1 hz1 hBw hN1
  go_wp2_with fail
  refine (lexLex_any W0.heap.size w1).mono ?_
  rintro e w2 ⟨rfl, hs2, hp2, hb2, hz2⟩
  have K0 : Aside0 (Kp s (l0, b0, false) w1 w2 W0.heap.size w1.heap.size (w1.heap.size + 1) (s.size + 1) 0 [] (.slice none 0 0)) :=
    ⟨⟨by omega, by omega, by simp, by omega, ⟨s.size + 1, by omega, HR.out⟩, hp2, hs2, hb2, Kd.R_nil _ _ _ _ _, by omega, by omega, by omega⟩⟩
  clear hs2 hp2 hb2 hz2
  go_wp2_with fail
  go_loopg [2] (s.size + 1) (fun kq v2 wr => ∃ (p : Int) (l : List S24), Aside0 (Kp s (l0, b0, false) w1 wr W0.heap.size w1.heap.size (w1.heap.size + 1) kq p l v2))
  case atStart => exact ⟨0, [], K0⟩
  case round =>
    clear K0
    obtain ⟨p, l, HK⟩ := hrel
    obtain ⟨A, c, rfl, hc, hC⟩ := Kd.R_reads HK.out.row
    obtain ⟨k, hk, hrun⟩ := HK.out.run
    obtain ⟨N, hN, hG⟩ := lexd_goes s HPT.out (l0, b0, false) rfl k p l HK.out.p0 HK.out.p1 hk hrun
    have HN := Aside0.mk hN
    have HKK := Aside0.mk hk
    have HG := Aside0.mk hG
    have hle0 : l.length ≤ s.size := by have := HK.out.len; have := HK.out.p1; omega
    have hle : decide (l.length ≤ s.size) = true := decide_eq_true hle0
    clear hc hC hk hrun hN hG
    have hsrc := HS1.out.below HK.out.below
    have hgc := PFnReadString.old_cell HK.out.below HC1.out
    have hsc := (blk_cell HK.out.source 0).trans rfl
    have HL := Aside0.mk (lexer_any s W0.heap.size w.heap.size (grownCap w s.size 0 5) w1.heap.size (w1.heap.size + 1) k 0 p p N wr rfl hsrc hgc hsc HK.out.place hs HK.out.p0 HK.out.p1 HKK.out HN.out)
    clear hsrc hgc hsc
    go_wp2_with fail
    refine HL.out.mono ?_
    rintro e w3 ⟨he3, hm3⟩
    have HM := Aside0.mk hm3
    clear hm3
    cases HG.out with
    | bad h =>
      obtain ⟨x, rfl⟩ := he3
      have hb : b0 = true := (Prod.mk.inj (Prod.mk.inj h).2).1
      subst hb
      go_wp2_with fail
      go_ret2
      refine ⟨⟨_, rfl, Kd.R_nil _ _ _ _ _⟩, ?_⟩
      have hm : Below wr.heap.size wr w3 := HM.out
      exact ((HBw.out.trans (HK.out.below.mono HBw.out.size)).trans (hm.mono (by have := HBw.out.size; have := HK.out.below.size; omega))).alloc (by have := HBw.out.size; have := HK.out.below.size; have := hm.size; omega) _
    | fin h =>
      obtain rfl : e = .returned (.tuple #[tk 1 s.size s.size ⟨#[]⟩, .nilIface]) := he3
      obtain ⟨rfl, hb⟩ := Prod.mk.inj h
      obtain rfl := (Prod.mk.inj hb).1
      go_wp2_with fail
      go_ret2
      obtain ⟨-, -, m3, m4⟩ := HK.out.moved HM.out
      refine ⟨⟨_, rfl, ?_⟩, ?_⟩
      · exact Kd.R_below (Kd.R_lower m4 HBw.out.size) (below_alloc (Below.refl _ _) _)
      · exact (HBw.out.trans (m3.mono HBw.out.size)).alloc (by have := HBw.out.size; have := m3.size; omega) _
    | tok t k hk h1 h2 h3 hL =>
      obtain ⟨m1, m2, m3, m4⟩ := HK.out.moved HM.out
      obtain ⟨t0, t1, t2, t3⟩ := t
      obtain rfl : e = .returned (.tuple #[tk t0 t2 t3 t1, .nilIface]) := he3
      have hkb : (t0 == 1) = false := by simpa using hk
      have M1 := Aside0.mk m1
      have M2 := Aside0.mk m2
      have M3 := Aside0.mk m3
      have M4 := Aside0.mk m4
      have HLL := Aside0.mk hL
      clear m1 m2 m3 m4 hL hk
      go_wp2_with fail
      refine (PFnReadString.impl_token.calls t0 t2 t3 t1 t0 t1 t2 t3 _ rfl).mono ?_
      rintro e w4 ⟨rfl, hb4⟩
      have hb4' : Below w3.heap.size w3 w4 := (below_alloc (Below.refl _ _) _).trans (hb4.mono (by simp))
      have Q1 := Aside0.mk (blk_below M1.out hb4')
      have Q2 := Aside0.mk (blk_below M2.out hb4')
      have Q3 := Aside0.mk (M3.out.trans (hb4'.mono M3.out.size))
      have Q4 := Aside0.mk (Kd.R_below M4.out hb4')
      clear hb4 hb4'
      have hlen : (l.length + 1) * 40 ≤ 140737488355328 := by have := HK.out.len; have := HK.out.p1; omega
      have HLEN := Aside0.mk hlen
      clear hlen
      go_wp2_with (at_builtin; refine Kd.R_append k24 (w0 := w1) w1.heap.size rfl (.tmp 29) (.tmp 32) 33 24 _ 40 rfl Tryz.underlying33 info24 rfl (by decide) (by decide) (.slice A l.length c) l ⟨t0, t1, t2, t3⟩ [.int .i64 t0, .string t1, .int .i64 t2, .int .i64 t3] (fun _ => True) (fun _ => False) rfl rfl (k24_mkM _ _ _ _) (fun _ hk => hk.elim) (fun _ _ => trivial) Q4.out Q3.out Q3.out.size HLEN.out ?_; intro v1 w5 hR5 hB5 hgr hat; have HR5 := Aside0.mk hR5; have HB5 := Aside0.mk hB5; have P1 := Aside0.mk (blk_grown Q1.out hgr (Kd.R_typed Q4.out) (by decide)); have P2 := Aside0.mk (blk_grown Q2.out hgr (Kd.R_typed Q4.out) (by decide)); clear hR5 hB5 hgr hat)
      go_roundg (gk - 1)
      case measure => have := HK.out.fuel; have := HK.out.p1; omega
      case rel =>
        refine ⟨t3, l ++ [⟨t0, t1, t2, t3⟩], ⟨⟨?_, h2, ?_, ?_, ⟨k, h3, HLL.out⟩, P1.out, P2.out, HB5.out, HR5.out, HK.out.pb1, HK.out.sb1, HK.out.ne⟩⟩⟩
        · have := HK.out.p0; exact (by omega : (0 : Int) ≤ t3)
        · have := HK.out.len; simp; omega
        · have := HK.out.fuel; have := HK.out.p1; omega
end Go.Proofs.YtbobbognjmofdaaGreatDoor.Lex
