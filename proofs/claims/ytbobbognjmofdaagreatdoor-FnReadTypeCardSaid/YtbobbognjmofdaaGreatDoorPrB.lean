/-
  Nodes of documents as data: a row of nodes, a node's size stored, and the reference's Made, walked.
-/
import Derived.Test.YtbobbognjmofdaaGreatDoorPrA
namespace Go.Proofs.YtbobbognjmofdaaGreatDoor.Lex
open Go.RowKit Go.Proofs.YtbobbognjmofdaaGreatDoorW.PrintWords Go.Proofs.YtbobbognjmofdaaGreatDoorW.PrintLast Go.Proofs.YtbobbognjmofdaaGreatDoorW.PrintMore
open Go.Proofs.YtbobbognjmofdaaGreatDoor.Ptext
set_option linter.unusedVariables false
set_option linter.unusedSimpArgs false
theorem info50 : (Tryz.prog.info? 50).map (fun i => (i.zero, i.size, i.bytes)) = some (some (.agg #[.int .i64 0, .string ⟨#[]⟩, .string ⟨#[]⟩, .string ⟨#[]⟩, .int .i64 0, .int .i64 0]), 6, 72) := by kernel_rfl
/-- A node. -/
structure S50 where
  f0 : Int
  f1 : ByteArray
  f2 : ByteArray
  f3 : ByteArray
  f4 : Int
  f5 : Int
def z50 : S50 := ⟨0, ⟨#[]⟩, ⟨#[]⟩, ⟨#[]⟩, 0, 0⟩
abbrev cs50 (x : S50) : List Value := [.int .i64 x.f0, .string x.f1, .string x.f2, .string x.f3, .int .i64 x.f4, .int .i64 x.f5]
abbrev val50 (x : S50) : Value := .agg #[.int .i64 x.f0, .string x.f1, .string x.f2, .string x.f3, .int .i64 x.f4, .int .i64 x.f5]
def k50 : Kd S50 := Kd.iso (Kd.pair (Kd.int .i64) (Kd.pair Kd.string (Kd.pair Kd.string (Kd.pair Kd.string (Kd.pair (Kd.int .i64) (Kd.int .i64)))))) (fun x : S50 => (x.f0, x.f1, x.f2, x.f3, x.f4, x.f5))
theorem k50_open {w : World} {x : S50} {cs : List Value} (h : k50.K w x cs) : cs = cs50 x := by
  obtain ⟨_, _, rfl, rfl, ⟨_, _, rfl, rfl, ⟨_, _, rfl, rfl, ⟨_, _, rfl, rfl, ⟨_, _, rfl, rfl, rfl⟩⟩⟩⟩⟩ := h
  exact rfl
theorem k50_mkM (w : World) (base : Nat) (ok : Nat → Prop) (x : S50) : k50.M w base ok x (cs50 x) :=
  ⟨[_], [_, _, _, _, _], rfl, rfl, ⟨[_], [_, _, _, _], rfl, rfl, ⟨[_], [_, _, _], rfl, rfl, ⟨[_], [_, _], rfl, rfl, ⟨[_], [_], rfl, rfl, rfl⟩⟩⟩⟩⟩
theorem k50_sz : k50.sz = 6 := rfl
theorem k50_E : ∀ q, q ∈ 50 :: k50.E → q = 50 := by
  simp [k50, Kd.iso, Kd.pair, Kd.int, Kd.string, Kd.scalar]
theorem k50_ne {t : Nat} (h : t ≠ 50) : ∀ q, q ∈ 50 :: k50.E → q ≠ t := fun q hq => by rw [k50_E q hq]; exact fun e => h e.symm
def rd_T50 (xs : List S50) (i : Int) : S50 := xs.getD i.toNat z50
theorem at_T50 {w : World} {A : Option Addr} {n : Nat} {xs : List S50} (h : Kd.C k50 w A n xs) (i : Int) (h0 : 0 ≤ i) (h1 : i < n) : ∃ ad, A = some ad ∧ w.cell? (ad.add (i.toNat * 6)) = some (.int .i64 (rd_T50 xs i).f0) ∧
    w.cell? ⟨(ad.add (i.toNat * 6)).block, (ad.add (i.toNat * 6)).off + 1, none⟩ = some (.string (rd_T50 xs i).f1) ∧ w.cell? ⟨(ad.add (i.toNat * 6)).block, (ad.add (i.toNat * 6)).off + 2, none⟩ = some (.string (rd_T50 xs i).f2) ∧
    w.cell? ⟨(ad.add (i.toNat * 6)).block, (ad.add (i.toNat * 6)).off + 3, none⟩ = some (.string (rd_T50 xs i).f3) ∧ w.cell? ⟨(ad.add (i.toNat * 6)).block, (ad.add (i.toNat * 6)).off + 4, none⟩ = some (.int .i64 (rd_T50 xs i).f4) ∧
    w.cell? ⟨(ad.add (i.toNat * 6)).block, (ad.add (i.toNat * 6)).off + 5, none⟩ = some (.int .i64 (rd_T50 xs i).f5) := by
  obtain ⟨ad, c, e, _, hK, hc0⟩ := Kd.C_get h z50 i h0 h1
  have hc : ∀ j u, c[j]? = some u → w.cell? (ad.add (i.toNat * 6 + j)) = some u := hc0
  obtain rfl := k50_open hK
  exact ⟨ad, e, hc 0 _ rfl, by rw [← add_field _ _ 1 (by omega)]; exact hc 1 _ rfl, by rw [← add_field _ _ 2 (by omega)]; exact hc 2 _ rfl, by rw [← add_field _ _ 3 (by omega)]; exact hc 3 _ rfl, by rw [← add_field _ _ 4 (by omega)]; exact hc 4 _ rfl, by rw [← add_field _ _ 5 (by omega)]; exact hc 5 _ rfl⟩
theorem k50_R_iff {w w1 : World} {base : Nat} {ok ok' : Nat → Prop} {x : S50} {cs : List Value} (h : k50.M w base ok x cs) : k50.M w1 base ok' x cs := by
  obtain rfl := k50_open (k50.K_of_M h)
  exact k50_mkM _ _ _ _
/-- A block that holds one node is a row of one. -/
theorem R50_one {W : World} {base g : Nat} {x : S50} (h : W.heap[g]? = some (.cells (cs50 x).toArray 50 (0, 0))) (hg : base ≤ g) : k50.R 50 W base (fun _ => True) (.slice (some ⟨g, 0, none⟩) 1 1) [x] := by
  refine ⟨fun _ _ => trivial, cs50 x, ⟨rfl, .inr ⟨g, 1, (cs50 x).toArray, rfl, hg, h, Nat.le_refl _, by decide, rfl, rfl⟩⟩, rfl, fun j p hj => ?_⟩
  cases j with
  | succ j => simp at hj
  | zero =>
    obtain rfl : x = p := by simpa using hj
    exact k50_mkM _ _ _ _
/-- The size of a node stored. -/
theorem R50_size {W : World} {base : Nat} {ok : Nat → Prop} {v : Value} {xs : List S50} (h : k50.R 50 W base ok v xs) (i : Nat) (hi : i < xs.length) : ∃ g c, v = .slice (some ⟨g, 0, none⟩) xs.length c ∧ xs.length ≤ c ∧ base ≤ g ∧ g < W.heap.size ∧
    (∃ u, W.cell? ⟨g, i * 6 + 5, none⟩ = some u) ∧ W.frozen? ⟨g, i * 6 + 5, none⟩ = false ∧ ∀ m, k50.R 50 (W.setCell ⟨g, i * 6 + 5, none⟩ (.int .i64 m)) base ok v (xs.set i { xs[i] with f5 := m }) := by
  obtain ⟨h0, inner, ⟨hl, hrow⟩, hr⟩ := h
  rcases hrow with ⟨rfl, hn⟩ | ⟨g, cap, cur, rfl, hg, hh, hnc, hcm, hcs, ht⟩
  · omega
  have hsz : i * 6 + 5 < cur.size := by
    rw [hcs, k50_sz]
    omega
  have hcell := blk_cell hh (i * 6 + 5)
  refine ⟨g, cap, rfl, hnc, hg, blk_lt hh, ⟨_, hcell.trans (Array.getElem?_eq_getElem hsz)⟩, blk_frozen hh _, fun m => ?_⟩
  have hset := blk_set hh (i * 6 + 5) (.int .i64 m)
  have hl' : inner.length = xs.length * 6 := hl
  refine ⟨h0, inner.set (i * 6 + 5) (.int .i64 m), ⟨by rw [List.length_set, List.length_set]; exact hl, .inr ⟨g, cap, _, by rw [List.length_set], hg, hset, by rw [List.length_set]; exact hnc, hcm, by simpa using hcs, ?_⟩⟩, by rw [List.length_set, List.length_set]; exact hl, fun j p hj => ?_⟩
  · rw [List.length_set, ← ht, ← List.take_set]
    simp
  · have hrj := hr.2 j
    rw [k50_sz] at hrj ⊢
    have hjl : j < xs.length := by
      have := (List.getElem?_eq_some_iff.1 hj).1
      rwa [List.length_set] at this
    have hx := hrj xs[j] (List.getElem?_eq_getElem hjl)
    have hcs6 := k50_open (k50.K_of_M hx)
    by_cases e : j = i
    · subst e
      have hp : p = { xs[j] with f5 := m } := by
        rw [List.getElem?_set_self hjl] at hj
        exact (Option.some.inj hj).symm
      subst hp
      have : ((inner.set (j * 6 + 5) (.int .i64 m)).drop (j * 6)).take 6 = cs50 { xs[j] with f5 := m } := by
        rw [List.drop_set, if_neg (by omega), List.take_set, show j * 6 + 5 - j * 6 = 5 by omega, hcs6]
        rfl
      rw [this]
      exact k50_mkM _ _ _ _
    · have hp : p = xs[j] := by
        rw [List.getElem?_set_ne (by omega), List.getElem?_eq_getElem hjl] at hj
        exact (Option.some.inj hj).symm
      subst hp
      have : ((inner.set (i * 6 + 5) (.int .i64 m)).drop (j * 6)).take 6 = (inner.drop (j * 6)).take 6 := by
        rw [List.drop_set]
        by_cases hlt : i * 6 + 5 < j * 6
        · rw [if_pos hlt]
        · rw [if_neg hlt, List.take_set, List.set_eq_of_length_le]
          simp
          omega
      rw [this]
      exact k50_R_iff hx
/-- A node with its kids. -/
def made (n : S50) (xss : List (List S50)) : List S50 := { n with f5 := 1 + xss.flatten.length } :: xss.flatten
theorem row50 {w : World} {A : Option Addr} {m : Nat} {ys : List S50} (h : Kd.C k50 w A m ys) : ReadsRow (k50.K w) k50.sz w A m ys := h
theorem flat_take {α : Type} (xss : List (List α)) (k : Nat) (h : k < xss.length) : (xss.take (k + 1)).flatten = (xss.take k).flatten ++ xss[k] := by
  rw [List.take_succ_eq_append_getElem h, List.flatten_append, List.flatten_cons, List.flatten_nil, List.append_nil]
theorem flat_take_len {α : Type} (xss : List (List α)) (k : Nat) (h : k < xss.length) : (xss.take k).flatten.length + xss[k].length ≤ xss.flatten.length := by
  have e : xss.flatten = (xss.take (k + 1)).flatten ++ (xss.drop (k + 1)).flatten := by rw [← List.flatten_append, List.take_append_drop]
  rw [e, flat_take xss k h, List.length_append, List.length_append]
  omega
theorem below_row {w W W1 : World} {base : Nat} (h : Below base w W) (hb : Below W.heap.size W W1) (hB : base ≤ W.heap.size) : Below base w W1 := below_then h hB hb
set_option maxHeartbeats 2000000 in
theorem made_any (n : S50) (xss : List (List S50)) (A : Option Addr) (c : Nat) (w : World) (hK : Kd.C (Kd.slice 50 k50) w A xss.length xss) (hb : xss.flatten.length ≤ 1000000) (hl : xss.length ≤ 1000000) :
    Calls Tryz.prog 30 #[val50 n, .slice A xss.length c] w fun e w' => (∃ v, e = .returned v ∧ k50.R 50 w' w.heap.size (fun _ => True) v (made n xss)) ∧ Below w.heap.size w w' := by
  have HK := Aside0.mk hK
  clear hK
  have HBB := Aside0.mk hb
  clear hb
  obtain ⟨n0, n1, n2, n3, n4, n5⟩ := n
  go_enter Tryz.func30, Tryz.ntmps30
  go_wp2_with fail
  have hR0 : k50.R 50 ((w.alloc (.cells #[.int .i64 n0, .string n1, .string n2, .string n3, .int .i64 n4, .int .i64 n5] 50)).alloc (.cells #[.int .i64 n0, .string n1, .string n2, .string n3, .int .i64 n4, .int .i64 n5] 50)) w.heap.size (fun _ => True) (.slice (some ⟨w.heap.size + 1, 0, none⟩) 1 1) [⟨n0, n1, n2, n3, n4, n5⟩] := by
    refine R50_one ?_ (by omega)
    have := blk_new (w.alloc (.cells #[.int .i64 n0, .string n1, .string n2, .string n3, .int .i64 n4, .int .i64 n5] 50)) (.cells #[.int .i64 n0, .string n1, .string n2, .string n3, .int .i64 n4, .int .i64 n5] 50)
    simpa using this
  have HR0 := Aside0.mk hR0
  have HB0 := Aside0.mk (((Below.refl w.heap.size w).alloc (Nat.le_refl _) (.cells #[.int .i64 n0, .string n1, .string n2, .string n3, .int .i64 n4, .int .i64 n5] 50)).alloc (by simp) (.cells #[.int .i64 n0, .string n1, .string n2, .string n3, .int .i64 n4, .int .i64 n5] 50))
  clear hR0
  go_loopw [5, 6] (fun v5 v6 wr => ∃ k : Nat, k ≤ xss.length ∧ v6 = .int .i64 k ∧ Aside0 (k50.R 50 wr w.heap.size (fun _ => True) v5 (⟨n0, n1, n2, n3, n4, n5⟩ :: (xss.take k).flatten) ∧ Below w.heap.size w wr)) (fun _ v6 _ => xss.length - (intOf v6).toNat)
  case atStart => exact ⟨0, Nat.zero_le _, rfl, ⟨HR0.out, HB0.out⟩⟩
  case round =>
    clear HR0 HB0
    obtain ⟨k, hk, rfl, HA⟩ := hrel
    by_cases hlt : k < xss.length
    · obtain ⟨ad, cs, rfl, hcl, ⟨A2, c2, rfl, hc2, hC2⟩, hcell⟩ := Kd.C_get (Kd.C_below HK.out HA.out.2) ([] : List S50) (k : Int) (by omega) (by omega)
      have hx : xss.getD (k : Int).toNat [] = xss[k] := by simp [hlt]
      rw [hx] at hc2 hC2 hcell
      have p0 := hcell 0 _ rfl
      have hsz : ((Kd.slice 50 k50).sz) = 1 := rfl
      rw [hsz] at p0
      simp only [Int.toNat_natCast, Nat.mul_one, Nat.add_zero] at p0
      have hflat := flat_take xss k hlt
      have hlen : ((⟨n0, n1, n2, n3, n4, n5⟩ :: (xss.take k).flatten : List S50).length + xss[k].length) * 72 ≤ 140737488355328 := by
        have h1 := flat_take_len xss k hlt
        have h2 := HBB.out
        rw [List.length_cons]
        omega
      have HL := Aside0.mk hlen
      have HF := Aside0.mk hflat
      have HC2 := Aside0.mk (row50 hC2)
      have HO := Aside0.mk HA.out.1
      have HB := Aside0.mk HA.out.2
      obtain ⟨ys, hys⟩ : ∃ ys, ys = xss[k] := ⟨_, rfl⟩
      rw [← hys] at HL HF HC2 p0
      clear hcell hc2 hC2 hlen hflat hx HA hsz hys
      go_wp2_with (at_builtin; refine Kd.R_append_rows k50 (Rr := k50.K wr) (w0 := w) w.heap.size rfl (.tmp 15) (.tmp 19) 41 50 _ 72 rfl Tryz.underlying41 info50 rfl (by decide) (by decide) _ (⟨n0, n1, n2, n3, n4, n5⟩ :: (xss.take k).flatten) ys A2 ys.length c2 (fun _ => True) (fun _ => False) rfl rfl HO.out HC2.out (fun x cs h => (k50_open h) ▸ k50_mkM _ _ _ _) (fun _ hk => hk.elim) (fun _ _ => trivial) HB.out HB.out.size HL.out ?_; intro v1 w1 hR1 hB1 hg hat; have HR1 := Aside0.mk hR1; have HB1 := Aside0.mk hB1; clear hR1 hB1 hg hat)
      go_roundw
      case rel => exact ⟨k + 1, by omega, by go_num, ⟨by rw [HF.out]; exact HR1.out, HB1.out⟩⟩
      case measure => simp [intOf]; omega
    · obtain rfl : k = xss.length := by omega
      rw [List.take_length] at HA
      obtain ⟨g, c1, rfl, hle, hg, hgl, ⟨u, hu⟩, hf, hset⟩ := R50_size HA.out.1 0 (by simp)
      have h5 : wr.cell? ⟨g, 5, none⟩ = some u := by simpa using hu
      have f5 : wr.frozen? ⟨g, 5, none⟩ = false := by simpa using hf
      have HS : Aside0 (∀ q : Int, q = 1 + xss.flatten.length → k50.R 50 (wr.setCell ⟨g, 5, none⟩ (.int .i64 q)) w.heap.size (fun _ => True) (.slice (some ⟨g, 0, none⟩) (⟨n0, n1, n2, n3, n4, n5⟩ :: xss.flatten : List S50).length c1) (made ⟨n0, n1, n2, n3, n4, n5⟩ xss)) :=
        ⟨fun q hq => by rw [hq]; exact hset _⟩
      have HB := Aside0.mk HA.out.2
      clear hu hf hset HA
      go_wp2_with fail
      go_ret
      exact ⟨⟨_, rfl, HS.out _ (by rw [List.length_flatten]; omega)⟩, HB.out.setCell hg _⟩
end Go.Proofs.YtbobbognjmofdaaGreatDoor.Lex
