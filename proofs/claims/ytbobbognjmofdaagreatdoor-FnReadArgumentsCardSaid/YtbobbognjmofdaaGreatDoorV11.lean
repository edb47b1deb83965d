import Derived.Test.YtbobbognjmofdaaGreatDoorV10
import Derived.Test.YtbobbognjmofdaaGreatDoorV03
import Derived.Outline
import Derived.Deep.RegionLaw
import Derived.Laws.Cover4
section
section
namespace Go.Proofs.YtbobbognjmofdaaGreatDoor.PFnReadString
open Go.RowKit Go.Proofs.YtbobbognjmofdaaGreatDoorW.PrintWords Go.Proofs.YtbobbognjmofdaaGreatDoorW.PrintLast Go.Proofs.YtbobbognjmofdaaGreatDoorW.PrintMore
attribute [local go_sem] max2_int min2_int max_two min_two
set_option linter.unusedVariables false
set_option linter.unusedSimpArgs false
mutual
def location_zzLineEnds.l0:Nat → List Int → List (List Int) → Int → Option ((List (List Int)))
 | 0,_,_,_=>none
 | k + 1,x0,x3,x4=>if x4 < (x0.length:Int) then (if 0 ≤ x4 then (if (rd x0 x4) = 13 then (if (wrap64 (x4 + 1)) < (x0.length:Int) then (if 0 ≤ (wrap64 (x4 + 1)) then (location_zzLineEnds.j1 k x0 x3 x4 ((rd x0 (wrap64 (x4 + 1))) == 10)) else (none)) else (location_zzLineEnds.j1 k x0 x3 x4 false)) else (location_zzLineEnds.j1 k x0 x3 x4 false)) else (none)) else (some x3)
def location_zzLineEnds.j1:Nat → List Int → List (List Int) → Int → Bool → Option ((List (List Int)))
 | 0,_,_,_,_=>none
 | k + 1,x0,x3,x4,x11=>if x11 = true then (if x3.length < 5864062014805 then (location_zzLineEnds.l0 k x0 (x3 ++ [(([x4,wrap64 (x4 + 2)]:List Int))]) (wrap64 ((wrap64 (x4 + 1)) + 1))) else (none)) else (if 0 ≤ x4 then (if x4 < (x0.length:Int) then (if (rd x0 x4) = 13 then (if x3.length < 5864062014805 then (location_zzLineEnds.l0 k x0 (x3 ++ [(([x4,wrap64 (x4 + 1)]:List Int))]) (wrap64 (x4 + 1))) else (none)) else (if (rd x0 x4) = 10 then (if x3.length < 5864062014805 then (location_zzLineEnds.l0 k x0 (x3 ++ [(([x4,wrap64 (x4 + 1)]:List Int))]) (wrap64 (x4 + 1))) else (none)) else (location_zzLineEnds.l0 k x0 x3 (wrap64 (x4 + 1))))) else (none)) else (none))
end
def location_zzLineEnds.f (k:Nat) (l0:List Int):Option ((List (List Int))):=location_zzLineEnds.l0 k l0 ([]:List (List Int)) 0
set_option maxHeartbeats 8000000 in
set_option maxRecDepth 100000 in
theorem location_zzLineEnds.calls (k:Nat) (A0:Option Addr) (c0:Nat) (l0:List Int) (r:List (List Int)) (w:World) (hr0:Kd.C (Kd.int .u8) w A0 l0.length l0) (hc0:l0.length ≤ c0) (h:location_zzLineEnds.f k l0 = some r) :
  Calls Tryz.prog 198 #[.slice A0 l0.length c0] w fun e w'=>∃ v0_:Value,e = .returned (v0_) ∧ Kd.S (Kd.slice 3 (Kd.int .i64)) 172 w' w.heap.size (fun _=>True) v0_ r ∧ Below w.heap.size w w':=by
 have HR0:=Aside0.mk hr0
 have HC0:=Aside0.mk hc0
 clear hr0 hc0
 have HB:=Aside0.mk (Below.refl w.heap.size w)
 have H:(location_zzLineEnds.l0 k l0 ([]:List (List Int)) 0) = some r:=h
 clear h
 have H':=Aside0.mk H
 clear H
 go_enter Tryz.func198,Tryz.ntmps198
 go_wp2
 go_loopg [3,4] k (fun kq v3 v4 w'=>∃ (x3_1:List (List Int)) (x4_1:Int),v4 = .int .i64 x4_1 ∧ Aside0 (location_zzLineEnds.l0 kq l0 x3_1 x4_1 = some r) ∧ Aside0 (kq ≤ k) ∧ Aside0 (Kd.S (Kd.slice 3 (Kd.int .i64)) 172 w' w.heap.size (fun _=>True) v3 x3_1) ∧ Aside0 (Below w.heap.size w w'))
 case atStart=>exact ⟨(([]:List (List Int))),(0),(by first | rfl | (simp;done) | (simp [*];done)),H',⟨Nat.le_refl _⟩,⟨by first | exact Kd.S_nil _ _ _ _ _ | exact Kd.N_nil _ _ _ _ _ | exact Kd.V_nil _ _ _ _ _ | exact Kd.Q_nil _ _ _ _ _ | exact Kd.R_nil _ _ _ _ _⟩,⟨by repeat (first | (with_reducible first | exact HB.out | apply below_alloc | apply pw_below_drewN | apply below_drew1) | exact HB.out)⟩⟩
 case round=>
  clear H'
  try clear c1
  obtain ⟨x3_1,x4_1,rfl,HA,HK1,HO_3,HB⟩:=hrel
  cases gk with
  | zero=>exact absurd HA.out (by simp [location_zzLineEnds.l0])
  | succ k1=>
   have H:=HA.out
   clear HA
   simp only [location_zzLineEnds.l0] at H
   by_cases c2:x4_1 < (l0.length:Int)
   ·rw [if_pos c2] at H
    have c2b0:decide (x4_1 < (l0.length:Int)) = true:=decide_eq_true c2
    clear c2
    have HC3:=Aside0.mk H
    clear H
    go_upto_region 5 with (fail)
    go_cut [11] (fun v11 wc=>∃ (kq:Nat) (x11_2:Bool),v11 = .bool x11_2 ∧ Aside0 (location_zzLineEnds.j1 kq l0 x3_1 x4_1 x11_2 = some r) ∧ Aside0 (kq ≤ k1) ∧ Aside0 (Kd.S (Kd.slice 3 (Kd.int .i64)) 172 wc w.heap.size (fun _=>True) u3 x3_1) ∧ Aside0 (Below w.heap.size w wc))
    case first=>
     have H:=HC3.out
     clear HC3
     by_cases c4:0 ≤ x4_1
     ·rw [if_pos c4] at H
      have c4b0:decide (0 ≤ x4_1) = true:=decide_eq_true c4
      clear c4
      (first | rw [c4b0] | (simp only [i64_w,i32_w];rw [c4b0]) | skip)
      by_cases c5:(rd l0 x4_1) = 13
      ·rw [if_pos c5] at H
       have c5b0:((rd l0 x4_1) == 13) = true:=beq_iff_eq.mpr c5
       have c5b1:((rd l0 x4_1) != 13) = false:=bne_eq_false_iff_eq.mpr c5
       clear c5
       by_cases c6:(wrap64 (x4_1 + 1)) < (l0.length:Int)
       ·rw [if_pos c6] at H
        have c6b0:decide ((wrap64 (x4_1 + 1)) < (l0.length:Int)) = true:=decide_eq_true c6
        clear c6
        obtain ⟨ji7,hji7⟩:∃ j_:Int,(wrap64 (x4_1 + 1)) = j_:=⟨_,rfl⟩
        replace H:(if 0 ≤ (ji7) then (location_zzLineEnds.j1 k1 l0 x3_1 x4_1 ((rd l0 (ji7)) == 10)) else (none)) = some r:=by first | (rw [hji7] at H;exact H) | (simp only [hji7] at H ⊢;exact H)
        (try rw [hji7] at c6b0)
        have hji7w:(IntKind.i64.wrap (x4_1 + 1)) = ji7:=(i64_w _).trans hji7
        by_cases c8:0 ≤ (ji7)
        ·rw [if_pos c8] at H
         have c8b0:decide (0 ≤ (ji7)) = true:=decide_eq_true c8
         clear c8
         have H':=Aside0.mk H
         clear H
         have p109:0 ≤ (x4_1:Int):=of_decide_eq_true (by first | (with_reducible assumption) | assumption)
         have q109:x4_1 < (l0.length:Int):=of_decide_eq_true (by first | (with_reducible assumption) | assumption)
         obtain ⟨ad109,e109,hx109_0⟩:=Kd.at_int HR0.out x4_1 p109 q109
         cases e109
         replace hx109_0:=(HB.out.cell (World.block_lt_of_cell? w _ hx109_0)).trans hx109_0
         replace p109:=eq_true p109
         replace q109:=eq_true q109
         have p110:0 ≤ ((ji7):Int):=of_decide_eq_true (by first | (with_reducible assumption) | assumption)
         have q110:(ji7) < (l0.length:Int):=of_decide_eq_true (by first | (with_reducible assumption) | assumption)
         obtain ⟨ad110,e110,hx110_0⟩:=Kd.at_int HR0.out (ji7) p110 q110
         obtain rfl:ad109 = ad110:=(by injection e110)
         replace hx110_0:=(HB.out.cell (World.block_lt_of_cell? w _ hx110_0)).trans hx110_0
         replace p110:=eq_true p110
         replace q110:=eq_true q110
         go_wp2
         go_meet
         case rel=>exact ⟨_,(((rd l0 (ji7)) == 10)),(by first | rfl | (simp;done) | (simp only [← hji7] <;> (first | rfl | simp)) | (simp [*];done)),H',⟨by have:=HK1.out;first | omega | exact Nat.le_refl _⟩,⟨by (with_reducible repeat (first | apply Kd.S_alloc | apply Kd.S_drewN | apply Kd.S_drew));exact HO_3.out⟩,⟨by repeat (first | (with_reducible first | exact HB.out | apply below_alloc | apply pw_below_drewN | apply below_drew1) | exact HB.out)⟩⟩
        ·rw [if_neg c8] at H
         exact absurd H (by simp)
       ·rw [if_neg c6] at H
        have c6b0:decide ((wrap64 (x4_1 + 1)) < (l0.length:Int)) = false:=decide_eq_false c6
        clear c6
        have H':=Aside0.mk H
        clear H
        have p109:0 ≤ (x4_1:Int):=of_decide_eq_true (by first | (with_reducible assumption) | assumption)
        have q109:x4_1 < (l0.length:Int):=of_decide_eq_true (by first | (with_reducible assumption) | assumption)
        obtain ⟨ad109,e109,hx109_0⟩:=Kd.at_int HR0.out x4_1 p109 q109
        cases e109
        replace hx109_0:=(HB.out.cell (World.block_lt_of_cell? w _ hx109_0)).trans hx109_0
        replace p109:=eq_true p109
        replace q109:=eq_true q109
        go_wp2
        go_meet
        case rel=>exact ⟨_,(false),(by first | rfl | (simp;done) | (simp [*];done)),H',⟨by have:=HK1.out;first | omega | exact Nat.le_refl _⟩,⟨by (with_reducible repeat (first | apply Kd.S_alloc | apply Kd.S_drewN | apply Kd.S_drew));exact HO_3.out⟩,⟨by repeat (first | (with_reducible first | exact HB.out | apply below_alloc | apply pw_below_drewN | apply below_drew1) | exact HB.out)⟩⟩
      ·rw [if_neg c5] at H
       have c5b0:((rd l0 x4_1) == 13) = false:=beq_eq_false_iff_ne.mpr c5
       have c5b1:((rd l0 x4_1) != 13) = true:=bne_iff_ne.mpr c5
       have H':=Aside0.mk H
       clear H
       have p109:0 ≤ (x4_1:Int):=of_decide_eq_true (by first | (with_reducible assumption) | assumption)
       have q109:x4_1 < (l0.length:Int):=of_decide_eq_true (by first | (with_reducible assumption) | assumption)
       obtain ⟨ad109,e109,hx109_0⟩:=Kd.at_int HR0.out x4_1 p109 q109
       cases e109
       replace hx109_0:=(HB.out.cell (World.block_lt_of_cell? w _ hx109_0)).trans hx109_0
       replace p109:=eq_true p109
       replace q109:=eq_true q109
       go_wp2
       go_meet
       case rel=>exact ⟨_,(false),(by first | rfl | (simp;done) | (simp [*];done)),H',⟨by have:=HK1.out;first | omega | exact Nat.le_refl _⟩,⟨by (with_reducible repeat (first | apply Kd.S_alloc | apply Kd.S_drewN | apply Kd.S_drew));exact HO_3.out⟩,⟨by repeat (first | (with_reducible first | exact HB.out | apply below_alloc | apply pw_below_drewN | apply below_drew1) | exact HB.out)⟩⟩
     ·rw [if_neg c4] at H
      exact absurd H (by simp)
    case rest=>
     clear HC3
     try clear c1
     try clear p1
     try clear q1
     try clear hx1
     try clear c2
     try clear c2b0
     try clear p2
     try clear c4
     try clear c4b0
     try clear c5
     try clear c5b0
     try clear c5b1
     try clear c6
     try clear c6b0
     try clear p6
     try clear c8
     try clear c8b0
     try clear hx109_0
     try clear hx110_0
     try clear p109
     try clear p110
     try clear q109
     try clear q110
     obtain ⟨kq,x11_2,rfl,HA,HJ2,HO_3,HB⟩:=hcut
     cases kq with
     | zero=>exact absurd HA.out (by simp [location_zzLineEnds.j1])
     | succ kj2=>
      have H:=HA.out
      clear HA
      simp only [location_zzLineEnds.j1] at H
      by_cases c9:x11_2 = true
      ·subst c9
       have H1:(if x3_1.length < 5864062014805 then (location_zzLineEnds.l0 kj2 l0 (x3_1 ++ [(([x4_1,wrap64 (x4_1 + 2)]:List Int))]) (wrap64 ((wrap64 (x4_1 + 1)) + 1))) else (none)) = some r:=by rw [if_pos rfl] at H;exact H
       clear H
       have H:=H1
       clear H1
       obtain ⟨y111,hy111⟩:∃ y_:List Int,y_ = (([x4_1,wrap64 (x4_1 + 2)]:List Int)):=⟨_,rfl⟩
       replace H:(if x3_1.length < 5864062014805 then (location_zzLineEnds.l0 kj2 l0 (x3_1 ++ [y111]) (wrap64 ((wrap64 (x4_1 + 1)) + 1))) else (none)) = some r:=by first | (rw [hy111];with_reducible exact H) | (have H2_:=(Option.bind_some _ _).symm.trans H;rw [hy111];with_reducible exact H2_) | (have H2_:=(Option.bind_some _ _).symm.trans H;with_reducible exact H2_) | with_reducible exact H | (rw [hy111];exact H) | exact H
       have Ny111:=Aside0.mk hy111
       clear hy111
       by_cases c10:x3_1.length < 5864062014805
       ·rw [if_pos c10] at H
        have LMc10:=Aside0.mk c10
        clear c10
        obtain ⟨y114,hy114⟩:∃ y_:List (List Int),y_ = (x3_1 ++ [y111]):=⟨_,rfl⟩
        replace H:(location_zzLineEnds.l0 kj2 l0 y114 (wrap64 ((wrap64 (x4_1 + 1)) + 1))) = some r:=by first | (rw [hy114];with_reducible exact H) | (have H2_:=(Option.bind_some _ _).symm.trans H;rw [hy114];with_reducible exact H2_) | (have H2_:=(Option.bind_some _ _).symm.trans H;with_reducible exact H2_) | with_reducible exact H | (rw [hy114];exact H) | exact H
        have Ny114:=Aside0.mk hy114
        clear hy114
        have H':=Aside0.mk H
        clear H
        go_wp2_with (first | ((with_reducible refine gate_dst (N:=36) rfl ?_);(try (refine gate_guard (by rfl) ?_;dsimp only));refine Kd.R_lit (Kd.int .i64) _ 3 ?hg (N:=36) ?hd (xs:=([x4_1,wrap64 (x4_1 + 2)]:List Int)) (inner:=[.int .i64 x4_1,.int .i64 (wrap64 (x4_1 + 2))]) (ok:=fun _=>True) (okp:=fun _=>True) ?hr ?hp (fun _ hk=>hk) trivial (Below.refl _ _) (Nat.le_refl _) (by simp) ?_;(case hd=>rfl);(case hg=>rfl);(case hr=>first | (go_simp;done) | (go_simp;rfl));(case hp=>exact (Reps.one (show Kd.M (Kd.int .i64) _ _ _ x4_1 [.int .i64 x4_1] from rfl) (Reps.one (show Kd.M (Kd.int .i64) _ _ _ (wrap64 (x4_1 + 2)) [.int .i64 (wrap64 (x4_1 + 2))] from rfl) (Reps.none _ _))));intro v112 w11 ho12 hb hg_ hnew_;clear hg_ hnew_;(first | rw [← Ny111.out] at ho12 | (simp only [Int.reduceToNat] at ho12;rw [← Ny111.out] at ho12));have n0_:=Aside0.mk (Kd.S_elder' (by (with_reducible repeat (first | apply Kd.S_alloc | apply Kd.S_drewN | apply Kd.S_drew));exact HO_3.out) (Kd.R_base ho12) hb);have n1_:=Aside0.mk (Kd.R_lower ho12 (below_size (by repeat (first | (with_reducible first | exact HB.out | apply below_alloc | apply pw_below_drewN | apply below_drew1) | exact HB.out))));have n2_:=Aside0.mk (below_step (by repeat (first | (with_reducible first | exact HB.out | apply below_alloc | apply pw_below_drewN | apply below_drew1) | exact HB.out)) hb);clear HO_3;clear HB;have HO_3:=n0_;have HO113:=n1_;have HB:=n2_;clear n0_ n1_ n2_;clear hb ho12;obtain ⟨Ao14,co14,eo14⟩:=Kd.R_slice HO113.out;subst eo14) | ((with_reducible refine gate_builtin (b:=.append) (xs:=#[.tmp 32,.tmp 37]) rfl ?_);(try (refine gate_guard (by rfl) ?_;dsimp only));at_builtin;refine Kd.S_append (Kd.slice 3 (Kd.int .i64)) (w0:=w) w.heap.size rfl (.tmp 32) (.tmp 37) 329 172 (.slice none 0 0) 24 rfl Tryz.underlying329 info172 rfl (by decide) (by omega) u3 x3_1 y111 [.slice Ao14 y111.length co14] (fun _=>True) (fun k_=>some k_ = (.slice Ao14 y111.length co14:Value).ownBlock) rfl rfl ?aP (fun k_ hk_=>((Kd.R_mono (ok':=fun k_=>((fun _=>True)) k_ ∧ some k_ ≠ (u3:Value).ownBlock) (Kd.R_apart' (HO113.out) (Kd.S_typed HO_3.out) (by decide)) (fun k_ hk=>⟨trivial,hk.2⟩))).1 k_ hk_.symm) ?aF ?aO ?aB ?aS ?aL ?_;(case aP=>exact Kd.M_row (Kd.R_mono (Kd.R_tight rfl (Kd.R_mono (ok':=fun k_=>((fun _=>True)) k_ ∧ some k_ ≠ (u3:Value).ownBlock) (Kd.R_apart' (HO113.out) (Kd.S_typed HO_3.out) (by decide)) (fun k_ hk=>⟨trivial,hk.2⟩))) (fun _ h_=>h_)));(case aB=>exact (by repeat (first | (with_reducible first | exact HB.out | apply below_alloc | apply pw_below_drewN | apply below_drew1) | exact HB.out)));(case aF=>exact (fun _ _=>trivial));(case aO=>exact (by (with_reducible repeat (first | apply Kd.S_alloc | apply Kd.S_drewN | apply Kd.S_drew));exact Kd.S_mono HO_3.out (fun k_ hk=>⟨trivial,fun e_=>hk.2 e_⟩)));(case aS=>exact (below_size (by repeat (first | (with_reducible first | exact HB.out | apply below_alloc | apply pw_below_drewN | apply below_drew1) | exact HB.out))));(case aL=>have:=LMc10.out;omega);intro v115 w13 ho hb hg hat;rw [← Ny114.out] at ho;have n0_:=Aside0.mk (hb);have n1_:=Aside0.mk (ho);clear HB;clear HO_3;clear HO113;have HB:=n0_;have HO116:=n1_;clear n0_ n1_;clear ho hb hg hat))
        go_roundg kj2
        case measure=>have:=HK1.out;have:=HJ2.out;omega
        case rel=>exact ⟨(y114),(wrap64 ((wrap64 (x4_1 + 1)) + 1)),(by first | rfl | (simp;done) | (simp [*];done)),H',⟨by have:=HK1.out;have:=HJ2.out;omega⟩,⟨by (with_reducible repeat (first | apply Kd.S_alloc | apply Kd.S_drewN | apply Kd.S_drew));exact HO116.out⟩,⟨by repeat (first | (with_reducible first | exact HB.out | apply below_alloc | apply pw_below_drewN | apply below_drew1) | exact HB.out)⟩⟩
       ·rw [if_neg c10] at H
        exact absurd H (by simp)
      ·replace c9:=Bool.eq_false_iff.mpr c9
       subst c9
       have H1:(if 0 ≤ x4_1 then (if x4_1 < (l0.length:Int) then (if (rd l0 x4_1) = 13 then (if x3_1.length < 5864062014805 then (location_zzLineEnds.l0 kj2 l0 (x3_1 ++ [(([x4_1,wrap64 (x4_1 + 1)]:List Int))]) (wrap64 (x4_1 + 1))) else (none)) else (if (rd l0 x4_1) = 10 then (if x3_1.length < 5864062014805 then (location_zzLineEnds.l0 kj2 l0 (x3_1 ++ [(([x4_1,wrap64 (x4_1 + 1)]:List Int))]) (wrap64 (x4_1 + 1))) else (none)) else (location_zzLineEnds.l0 kj2 l0 x3_1 (wrap64 (x4_1 + 1))))) else (none)) else (none)) = some r:=by rw [if_neg (show ¬ (false = true) by decide)] at H;exact H
       clear H
       have H:=H1
       clear H1
       by_cases c15:0 ≤ x4_1
       ·rw [if_pos c15] at H
        have c15b0:decide (0 ≤ x4_1) = true:=decide_eq_true c15
        clear c15
        by_cases c16:x4_1 < (l0.length:Int)
        ·rw [if_pos c16] at H
         have c16b0:decide (x4_1 < (l0.length:Int)) = true:=decide_eq_true c16
         clear c16
         by_cases c17:(rd l0 x4_1) = 13
         ·rw [if_pos c17] at H
          have c17b0:((rd l0 x4_1) == 13) = true:=beq_iff_eq.mpr c17
          have c17b1:((rd l0 x4_1) != 13) = false:=bne_eq_false_iff_eq.mpr c17
          clear c17
          obtain ⟨y118,hy118⟩:∃ y_:List Int,y_ = (([x4_1,wrap64 (x4_1 + 1)]:List Int)):=⟨_,rfl⟩
          replace H:(if x3_1.length < 5864062014805 then (location_zzLineEnds.l0 kj2 l0 (x3_1 ++ [y118]) (wrap64 (x4_1 + 1))) else (none)) = some r:=by first | (rw [hy118];with_reducible exact H) | (have H2_:=(Option.bind_some _ _).symm.trans H;rw [hy118];with_reducible exact H2_) | (have H2_:=(Option.bind_some _ _).symm.trans H;with_reducible exact H2_) | with_reducible exact H | (rw [hy118];exact H) | exact H
          have Ny118:=Aside0.mk hy118
          clear hy118
          by_cases c18:x3_1.length < 5864062014805
          ·rw [if_pos c18] at H
           have LMc18:=Aside0.mk c18
           clear c18
           obtain ⟨y121,hy121⟩:∃ y_:List (List Int),y_ = (x3_1 ++ [y118]):=⟨_,rfl⟩
           replace H:(location_zzLineEnds.l0 kj2 l0 y121 (wrap64 (x4_1 + 1))) = some r:=by first | (rw [hy121];with_reducible exact H) | (have H2_:=(Option.bind_some _ _).symm.trans H;rw [hy121];with_reducible exact H2_) | (have H2_:=(Option.bind_some _ _).symm.trans H;with_reducible exact H2_) | with_reducible exact H | (rw [hy121];exact H) | exact H
           have Ny121:=Aside0.mk hy121
           clear hy121
           have H':=Aside0.mk H
           clear H
           have p117:0 ≤ (x4_1:Int):=of_decide_eq_true (by first | (with_reducible assumption) | assumption)
           have q117:x4_1 < (l0.length:Int):=of_decide_eq_true (by first | (with_reducible assumption) | assumption)
           obtain ⟨ad117,e117,hx117_0⟩:=Kd.at_int HR0.out x4_1 p117 q117
           cases e117
           replace hx117_0:=(HB.out.cell (World.block_lt_of_cell? w _ hx117_0)).trans hx117_0
           replace p117:=eq_true p117
           replace q117:=eq_true q117
           go_wp2_with (first | ((with_reducible refine gate_dst (N:=58) rfl ?_);(try (refine gate_guard (by rfl) ?_;dsimp only));refine Kd.R_lit (Kd.int .i64) _ 3 ?hg (N:=58) ?hd (xs:=([x4_1,wrap64 (x4_1 + 1)]:List Int)) (inner:=[.int .i64 x4_1,.int .i64 (wrap64 (x4_1 + 1))]) (ok:=fun _=>True) (okp:=fun _=>True) ?hr ?hp (fun _ hk=>hk) trivial (Below.refl _ _) (Nat.le_refl _) (by simp) ?_;(case hd=>rfl);(case hg=>rfl);(case hr=>first | (go_simp;done) | (go_simp;rfl));(case hp=>exact (Reps.one (show Kd.M (Kd.int .i64) _ _ _ x4_1 [.int .i64 x4_1] from rfl) (Reps.one (show Kd.M (Kd.int .i64) _ _ _ (wrap64 (x4_1 + 1)) [.int .i64 (wrap64 (x4_1 + 1))] from rfl) (Reps.none _ _))));intro v119 w19 ho20 hb hg_ hnew_;clear hg_ hnew_;(first | rw [← Ny118.out] at ho20 | (simp only [Int.reduceToNat] at ho20;rw [← Ny118.out] at ho20));have n0_:=Aside0.mk (Kd.S_elder' (by (with_reducible repeat (first | apply Kd.S_alloc | apply Kd.S_drewN | apply Kd.S_drew));exact HO_3.out) (Kd.R_base ho20) hb);have n1_:=Aside0.mk (Kd.R_lower ho20 (below_size (by repeat (first | (with_reducible first | exact HB.out | apply below_alloc | apply pw_below_drewN | apply below_drew1) | exact HB.out))));have n2_:=Aside0.mk (below_step (by repeat (first | (with_reducible first | exact HB.out | apply below_alloc | apply pw_below_drewN | apply below_drew1) | exact HB.out)) hb);clear HO_3;clear HB;have HO_3:=n0_;have HO120:=n1_;have HB:=n2_;clear n0_ n1_ n2_;clear hb ho20;obtain ⟨Ao22,co22,eo22⟩:=Kd.R_slice HO120.out;subst eo22) | ((with_reducible refine gate_builtin (b:=.append) (xs:=#[.tmp 54,.tmp 59]) rfl ?_);(try (refine gate_guard (by rfl) ?_;dsimp only));at_builtin;refine Kd.S_append (Kd.slice 3 (Kd.int .i64)) (w0:=w) w.heap.size rfl (.tmp 54) (.tmp 59) 329 172 (.slice none 0 0) 24 rfl Tryz.underlying329 info172 rfl (by decide) (by omega) u3 x3_1 y118 [.slice Ao22 y118.length co22] (fun _=>True) (fun k_=>some k_ = (.slice Ao22 y118.length co22:Value).ownBlock) rfl rfl ?aP (fun k_ hk_=>((Kd.R_mono (ok':=fun k_=>((fun _=>True)) k_ ∧ some k_ ≠ (u3:Value).ownBlock) (Kd.R_apart' (HO120.out) (Kd.S_typed HO_3.out) (by decide)) (fun k_ hk=>⟨trivial,hk.2⟩))).1 k_ hk_.symm) ?aF ?aO ?aB ?aS ?aL ?_;(case aP=>exact Kd.M_row (Kd.R_mono (Kd.R_tight rfl (Kd.R_mono (ok':=fun k_=>((fun _=>True)) k_ ∧ some k_ ≠ (u3:Value).ownBlock) (Kd.R_apart' (HO120.out) (Kd.S_typed HO_3.out) (by decide)) (fun k_ hk=>⟨trivial,hk.2⟩))) (fun _ h_=>h_)));(case aB=>exact (by repeat (first | (with_reducible first | exact HB.out | apply below_alloc | apply pw_below_drewN | apply below_drew1) | exact HB.out)));(case aF=>exact (fun _ _=>trivial));(case aO=>exact (by (with_reducible repeat (first | apply Kd.S_alloc | apply Kd.S_drewN | apply Kd.S_drew));exact Kd.S_mono HO_3.out (fun k_ hk=>⟨trivial,fun e_=>hk.2 e_⟩)));(case aS=>exact (below_size (by repeat (first | (with_reducible first | exact HB.out | apply below_alloc | apply pw_below_drewN | apply below_drew1) | exact HB.out))));(case aL=>have:=LMc18.out;omega);intro v122 w21 ho hb hg hat;rw [← Ny121.out] at ho;have n0_:=Aside0.mk (hb);have n1_:=Aside0.mk (ho);clear HB;clear HO_3;clear HO120;have HB:=n0_;have HO123:=n1_;clear n0_ n1_;clear ho hb hg hat))
           go_roundg kj2
           case measure=>have:=HK1.out;have:=HJ2.out;omega
           case rel=>exact ⟨(y121),(wrap64 (x4_1 + 1)),(by first | rfl | (simp;done) | (simp [*];done)),H',⟨by have:=HK1.out;have:=HJ2.out;omega⟩,⟨by (with_reducible repeat (first | apply Kd.S_alloc | apply Kd.S_drewN | apply Kd.S_drew));exact HO123.out⟩,⟨by repeat (first | (with_reducible first | exact HB.out | apply below_alloc | apply pw_below_drewN | apply below_drew1) | exact HB.out)⟩⟩
          ·rw [if_neg c18] at H
           exact absurd H (by simp)
         ·rw [if_neg c17] at H
          have c17b0:((rd l0 x4_1) == 13) = false:=beq_eq_false_iff_ne.mpr c17
          have c17b1:((rd l0 x4_1) != 13) = true:=bne_iff_ne.mpr c17
          by_cases c23:(rd l0 x4_1) = 10
          ·rw [if_pos c23] at H
           have c23b0:((rd l0 x4_1) == 10) = true:=beq_iff_eq.mpr c23
           have c23b1:((rd l0 x4_1) != 10) = false:=bne_eq_false_iff_eq.mpr c23
           clear c23
           obtain ⟨y125,hy125⟩:∃ y_:List Int,y_ = (([x4_1,wrap64 (x4_1 + 1)]:List Int)):=⟨_,rfl⟩
           replace H:(if x3_1.length < 5864062014805 then (location_zzLineEnds.l0 kj2 l0 (x3_1 ++ [y125]) (wrap64 (x4_1 + 1))) else (none)) = some r:=by first | (rw [hy125];with_reducible exact H) | (have H2_:=(Option.bind_some _ _).symm.trans H;rw [hy125];with_reducible exact H2_) | (have H2_:=(Option.bind_some _ _).symm.trans H;with_reducible exact H2_) | with_reducible exact H | (rw [hy125];exact H) | exact H
           have Ny125:=Aside0.mk hy125
           clear hy125
           by_cases c24:x3_1.length < 5864062014805
           ·rw [if_pos c24] at H
            have LMc24:=Aside0.mk c24
            clear c24
            obtain ⟨y128,hy128⟩:∃ y_:List (List Int),y_ = (x3_1 ++ [y125]):=⟨_,rfl⟩
            replace H:(location_zzLineEnds.l0 kj2 l0 y128 (wrap64 (x4_1 + 1))) = some r:=by first | (rw [hy128];with_reducible exact H) | (have H2_:=(Option.bind_some _ _).symm.trans H;rw [hy128];with_reducible exact H2_) | (have H2_:=(Option.bind_some _ _).symm.trans H;with_reducible exact H2_) | with_reducible exact H | (rw [hy128];exact H) | exact H
            have Ny128:=Aside0.mk hy128
            clear hy128
            have H':=Aside0.mk H
            clear H
            have p117:0 ≤ (x4_1:Int):=of_decide_eq_true (by first | (with_reducible assumption) | assumption)
            have q117:x4_1 < (l0.length:Int):=of_decide_eq_true (by first | (with_reducible assumption) | assumption)
            obtain ⟨ad117,e117,hx117_0⟩:=Kd.at_int HR0.out x4_1 p117 q117
            cases e117
            replace hx117_0:=(HB.out.cell (World.block_lt_of_cell? w _ hx117_0)).trans hx117_0
            replace p117:=eq_true p117
            replace q117:=eq_true q117
            have p124:0 ≤ (x4_1:Int):=of_decide_eq_true (by first | (with_reducible assumption) | assumption)
            have q124:x4_1 < (l0.length:Int):=of_decide_eq_true (by first | (with_reducible assumption) | assumption)
            obtain ⟨ad124,e124,hx124_0⟩:=Kd.at_int HR0.out x4_1 p124 q124
            obtain rfl:ad117 = ad124:=(by injection e124)
            replace hx124_0:=(HB.out.cell (World.block_lt_of_cell? w _ hx124_0)).trans hx124_0
            replace p124:=eq_true p124
            replace q124:=eq_true q124
            go_wp2_with (first | ((with_reducible refine gate_dst (N:=58) rfl ?_);(try (refine gate_guard (by rfl) ?_;dsimp only));refine Kd.R_lit (Kd.int .i64) _ 3 ?hg (N:=58) ?hd (xs:=([x4_1,wrap64 (x4_1 + 1)]:List Int)) (inner:=[.int .i64 x4_1,.int .i64 (wrap64 (x4_1 + 1))]) (ok:=fun _=>True) (okp:=fun _=>True) ?hr ?hp (fun _ hk=>hk) trivial (Below.refl _ _) (Nat.le_refl _) (by simp) ?_;(case hd=>rfl);(case hg=>rfl);(case hr=>first | (go_simp;done) | (go_simp;rfl));(case hp=>exact (Reps.one (show Kd.M (Kd.int .i64) _ _ _ x4_1 [.int .i64 x4_1] from rfl) (Reps.one (show Kd.M (Kd.int .i64) _ _ _ (wrap64 (x4_1 + 1)) [.int .i64 (wrap64 (x4_1 + 1))] from rfl) (Reps.none _ _))));intro v126 w25 ho26 hb hg_ hnew_;clear hg_ hnew_;(first | rw [← Ny125.out] at ho26 | (simp only [Int.reduceToNat] at ho26;rw [← Ny125.out] at ho26));have n0_:=Aside0.mk (Kd.S_elder' (by (with_reducible repeat (first | apply Kd.S_alloc | apply Kd.S_drewN | apply Kd.S_drew));exact HO_3.out) (Kd.R_base ho26) hb);have n1_:=Aside0.mk (Kd.R_lower ho26 (below_size (by repeat (first | (with_reducible first | exact HB.out | apply below_alloc | apply pw_below_drewN | apply below_drew1) | exact HB.out))));have n2_:=Aside0.mk (below_step (by repeat (first | (with_reducible first | exact HB.out | apply below_alloc | apply pw_below_drewN | apply below_drew1) | exact HB.out)) hb);clear HO_3;clear HB;have HO_3:=n0_;have HO127:=n1_;have HB:=n2_;clear n0_ n1_ n2_;clear hb ho26;obtain ⟨Ao28,co28,eo28⟩:=Kd.R_slice HO127.out;subst eo28) | ((with_reducible refine gate_builtin (b:=.append) (xs:=#[.tmp 54,.tmp 59]) rfl ?_);(try (refine gate_guard (by rfl) ?_;dsimp only));at_builtin;refine Kd.S_append (Kd.slice 3 (Kd.int .i64)) (w0:=w) w.heap.size rfl (.tmp 54) (.tmp 59) 329 172 (.slice none 0 0) 24 rfl Tryz.underlying329 info172 rfl (by decide) (by omega) u3 x3_1 y125 [.slice Ao28 y125.length co28] (fun _=>True) (fun k_=>some k_ = (.slice Ao28 y125.length co28:Value).ownBlock) rfl rfl ?aP (fun k_ hk_=>((Kd.R_mono (ok':=fun k_=>((fun _=>True)) k_ ∧ some k_ ≠ (u3:Value).ownBlock) (Kd.R_apart' (HO127.out) (Kd.S_typed HO_3.out) (by decide)) (fun k_ hk=>⟨trivial,hk.2⟩))).1 k_ hk_.symm) ?aF ?aO ?aB ?aS ?aL ?_;(case aP=>exact Kd.M_row (Kd.R_mono (Kd.R_tight rfl (Kd.R_mono (ok':=fun k_=>((fun _=>True)) k_ ∧ some k_ ≠ (u3:Value).ownBlock) (Kd.R_apart' (HO127.out) (Kd.S_typed HO_3.out) (by decide)) (fun k_ hk=>⟨trivial,hk.2⟩))) (fun _ h_=>h_)));(case aB=>exact (by repeat (first | (with_reducible first | exact HB.out | apply below_alloc | apply pw_below_drewN | apply below_drew1) | exact HB.out)));(case aF=>exact (fun _ _=>trivial));(case aO=>exact (by (with_reducible repeat (first | apply Kd.S_alloc | apply Kd.S_drewN | apply Kd.S_drew));exact Kd.S_mono HO_3.out (fun k_ hk=>⟨trivial,fun e_=>hk.2 e_⟩)));(case aS=>exact (below_size (by repeat (first | (with_reducible first | exact HB.out | apply below_alloc | apply pw_below_drewN | apply below_drew1) | exact HB.out))));(case aL=>have:=LMc24.out;omega);intro v129 w27 ho hb hg hat;rw [← Ny128.out] at ho;have n0_:=Aside0.mk (hb);have n1_:=Aside0.mk (ho);clear HB;clear HO_3;clear HO127;have HB:=n0_;have HO130:=n1_;clear n0_ n1_;clear ho hb hg hat))
            go_roundg kj2
            case measure=>have:=HK1.out;have:=HJ2.out;omega
            case rel=>exact ⟨(y128),(wrap64 (x4_1 + 1)),(by first | rfl | (simp;done) | (simp [*];done)),H',⟨by have:=HK1.out;have:=HJ2.out;omega⟩,⟨by (with_reducible repeat (first | apply Kd.S_alloc | apply Kd.S_drewN | apply Kd.S_drew));exact HO130.out⟩,⟨by repeat (first | (with_reducible first | exact HB.out | apply below_alloc | apply pw_below_drewN | apply below_drew1) | exact HB.out)⟩⟩
           ·rw [if_neg c24] at H
            exact absurd H (by simp)
          ·rw [if_neg c23] at H
           have c23b0:((rd l0 x4_1) == 10) = false:=beq_eq_false_iff_ne.mpr c23
           have c23b1:((rd l0 x4_1) != 10) = true:=bne_iff_ne.mpr c23
           have H':=Aside0.mk H
           clear H
           have p117:0 ≤ (x4_1:Int):=of_decide_eq_true (by first | (with_reducible assumption) | assumption)
           have q117:x4_1 < (l0.length:Int):=of_decide_eq_true (by first | (with_reducible assumption) | assumption)
           obtain ⟨ad117,e117,hx117_0⟩:=Kd.at_int HR0.out x4_1 p117 q117
           cases e117
           replace hx117_0:=(HB.out.cell (World.block_lt_of_cell? w _ hx117_0)).trans hx117_0
           replace p117:=eq_true p117
           replace q117:=eq_true q117
           have p124:0 ≤ (x4_1:Int):=of_decide_eq_true (by first | (with_reducible assumption) | assumption)
           have q124:x4_1 < (l0.length:Int):=of_decide_eq_true (by first | (with_reducible assumption) | assumption)
           obtain ⟨ad124,e124,hx124_0⟩:=Kd.at_int HR0.out x4_1 p124 q124
           obtain rfl:ad117 = ad124:=(by injection e124)
           replace hx124_0:=(HB.out.cell (World.block_lt_of_cell? w _ hx124_0)).trans hx124_0
           replace p124:=eq_true p124
           replace q124:=eq_true q124
           go_wp2
           go_roundg kj2
           case measure=>have:=HK1.out;have:=HJ2.out;omega
           case rel=>exact ⟨(x3_1),(wrap64 (x4_1 + 1)),(by first | rfl | (simp;done) | (simp [*];done)),H',⟨by have:=HK1.out;have:=HJ2.out;omega⟩,⟨by (with_reducible repeat (first | apply Kd.S_alloc | apply Kd.S_drewN | apply Kd.S_drew));exact HO_3.out⟩,⟨by repeat (first | (with_reducible first | exact HB.out | apply below_alloc | apply pw_below_drewN | apply below_drew1) | exact HB.out)⟩⟩
        ·rw [if_neg c16] at H
         exact absurd H (by simp)
       ·rw [if_neg c15] at H
        exact absurd H (by simp)
   ·rw [if_neg c2] at H
    have c2b0:decide (x4_1 < (l0.length:Int)) = false:=decide_eq_false c2
    clear c2
    obtain rfl:=Option.some.inj H
    go_wp2
    go_ret
    exact ⟨_,by first | rfl | (simp [errW_none,errW_some] <;> rfl) | (simp [*,errW_none,errW_some] <;> rfl),by (with_reducible repeat (first | apply Kd.S_alloc | apply Kd.S_drewN | apply Kd.S_drew));exact HO_3.out,by repeat (first | (with_reducible first | exact HB.out | apply below_alloc | apply pw_below_drewN | apply below_drew1) | exact HB.out)⟩
end Go.Proofs.YtbobbognjmofdaaGreatDoor.PFnReadString
end
section
namespace Go.Proofs.YtbobbognjmofdaaGreatDoor.PFnReadString
open Go.RowKit Go.Proofs.YtbobbognjmofdaaGreatDoorW.PrintWords Go.Proofs.YtbobbognjmofdaaGreatDoorW.PrintLast Go.Proofs.YtbobbognjmofdaaGreatDoorW.PrintMore
set_option linter.unusedVariables false
set_option linter.unusedSimpArgs false
abbrev bb (s:ByteArray) (i:Nat):Int:=bt s (i:Int)
def fin (s:ByteArray) (i:Nat):Nat:=if bb s i = 13 ∧ i + 1 < s.size ∧ bb s (i + 1) = 10 then i + 2 else i + 1
def ends (s:ByteArray) (n i:Nat):List (List Int):=
 match n with
 | 0=>[]
 | n + 1=>if i < s.size then (if bb s i = 13 ∨ bb s i = 10 then [(i:Int),(fin s i:Int)] :: ends s n (fin s i) else ends s n (i + 1)) else []
def locOf (place:Int):List (List Int) → Int → Int → Int × Int
 | [],line,col=>(line,col)
 | m :: ms,line,col=>if rd m 0 < place then locOf place ms (line + 1) (place + 1 - rd m 1) else (line,col)
theorem fin_bd (s:ByteArray) (i:Nat):i + 1 ≤ fin s i ∧ fin s i ≤ i + 2 ∧ (i < s.size → fin s i ≤ s.size):=by
 unfold fin;split <;> omega
theorem w64 {x:Int} (h:-1000000 ≤ x) (h':x ≤ 1000000):wrap64 x = x:=by unfold wrap64;omega
theorem ends_len (s:ByteArray):∀ n i:Nat,i ≤ s.size → (ends s n i).length ≤ s.size - i:=by
 intro n
 induction n with
 | zero=>intro i _;simp [ends]
 | succ n ih=>
  intro i hi
  unfold ends
  have hf:=fin_bd s i
  split
  ·split
   ·have:=ih (fin s i) (by omega)
    simp;omega
   ·have:=ih (i + 1) (by omega)
    omega
  ·simp
set_option maxHeartbeats 400000 in
theorem lines_tell (s:ByteArray) (hs:s.size ≤ 2000):∀ (n i k:Nat) (acc:List (List Int)),s.size - i < n → i ≤ s.size → acc.length ≤ i → 2 * n ≤ k →
  location_zzLineEnds.l0 k (bytesOf s) acc i = some (acc ++ ends s n i):=by
 intro n
 induction n with
 | zero=>intro i k acc h;omega
 | succ n ih=>
  intro i k acc hn hi hacc hk
  obtain ⟨k,rfl⟩:∃ m,k = m + 2:=⟨k - 2,by omega⟩
  have hl:(bytesOf s).length = s.size:=bytesOf_length s
  have hf:=fin_bd s i
  by_cases hlt:i < s.size
  ·have w1:Aside0 (wrap64 ((i:Int) + 1) = ((i + 1:Nat):Int)):=⟨by rw [w64 (by omega) (by omega)];omega⟩
   have w2:Aside0 (wrap64 ((i:Int) + 2) = ((i + 2:Nat):Int)):=⟨by rw [w64 (by omega) (by omega)];omega⟩
   have w3:Aside0 (wrap64 (((i + 1:Nat):Int) + 1) = ((i + 2:Nat):Int)):=⟨by rw [w64 (by omega) (by omega)];omega⟩
   have h1:∀ a:Nat,fin s i = a → (bb s i = 13 ∨ bb s i = 10) → location_zzLineEnds.l0 k (bytesOf s) (acc ++ [[(i:Int),(a:Int)]]) (a:Nat) = some (acc ++ ends s (n + 1) i):=by
    intro a ha hb
    subst ha
    rw [ih (fin s i) k _ (by omega) (by omega) (by simp;omega) (by omega)]
    conv=>rhs;unfold ends
    rw [if_pos hlt,if_pos hb]
    simp
   have h2:¬(bb s i = 13 ∨ bb s i = 10) → location_zzLineEnds.l0 k (bytesOf s) acc ((i + 1:Nat):Int) = some (acc ++ ends s (n + 1) i):=by
    intro hb
    rw [ih (i + 1) k acc (by omega) (by omega) (by omega) (by omega)]
    conv=>rhs;unfold ends
    rw [if_pos hlt,if_neg hb]
   have hj:∀ b:Bool,(b = true → bb s i = 13 ∧ i + 1 < s.size ∧ bb s (i + 1) = 10) → (b = false → ¬(bb s i = 13 ∧ i + 1 < s.size ∧ bb s (i + 1) = 10)) → location_zzLineEnds.j1 (k + 1) (bytesOf s) acc i b = some (acc ++ ends s (n + 1) i):=by
    intro b hb1 hb2
    simp only [location_zzLineEnds.j1,hl,rd_bytesOf,w1.out,w2.out,w3.out]
    cases b with
    | true=>
     have hb:=hb1 rfl
     rw [if_pos rfl,if_pos (by omega)]
     exact h1 (i + 2) (by unfold fin;rw [if_pos hb]) (.inl hb.1)
    | false=>
     have hb:=hb2 rfl
     have he:fin s i = i + 1:=by unfold fin;rw [if_neg hb]
     rw [if_neg (by simp),if_pos (by omega),if_pos (by omega)]
     by_cases h13:bb s i = 13
     ·rw [if_pos h13,if_pos (by omega)]
      exact h1 (i + 1) he (.inl h13)
     ·rw [if_neg h13]
      by_cases h10:bb s i = 10
      ·rw [if_pos h10,if_pos (by omega)]
       exact h1 (i + 1) he (.inr h10)
      ·rw [if_neg h10]
       exact h2 (by simp [h13,h10])
   simp only [location_zzLineEnds.l0,hl,rd_bytesOf,w1.out]
   rw [if_pos (by omega),if_pos (by omega)]
   by_cases h13:bb s i = 13
   ·rw [if_pos h13]
    by_cases hn1:i + 1 < s.size
    ·rw [if_pos (by omega),if_pos (by omega)]
     exact hj _ (fun h=>⟨h13,hn1,beq_iff_eq.1 h⟩) (fun h hh=>beq_eq_false_iff_ne.1 h hh.2.2)
    ·rw [if_neg (by omega)]
     exact hj _ (fun h=>by cases h) (fun _ hh=>by omega)
   ·rw [if_neg h13]
    exact hj _ (fun h=>by cases h) (fun _ hh=>h13 hh.1)
  ·simp only [location_zzLineEnds.l0,hl]
   rw [if_neg (by omega)]
   unfold ends
   rw [if_neg hlt]
   simp
theorem ends_in (s:ByteArray):∀ n i:Nat,∀ m ∈ ends s n i,m.length = 2 ∧ 0 ≤ rd m 0 ∧ rd m 0 < rd m 1 ∧ rd m 1 ≤ s.size:=by
 intro n
 induction n with
 | zero=>intro i m hm;simp [ends] at hm
 | succ n ih=>
  intro i m hm
  have hf:=fin_bd s i
  unfold ends at hm
  split at hm
  ·split at hm
   ·rcases List.mem_cons.1 hm with rfl | hm
    ·have h0:rd [(i:Int),(fin s i:Int)] 0 = i:=rfl
     have h1:rd [(i:Int),(fin s i:Int)] 1 = fin s i:=rfl
     rw [h0,h1]
     refine ⟨rfl,by omega,by omega,?_⟩
     have:=hf.2.2 ‹_›
     omega
    ·exact ih _ m hm
   ·exact ih _ m hm
  ·cases hm
theorem old_cell {w w1:World} (hb:Below w.heap.size w w1) {a:Addr} {v:Value} (hc:w.cell? a = some v):w1.cell? a = some v:=pw_cell_below hb hc
theorem box2 {W:World} {b:Nat} {u0 u1:Value} (x y:Value) (h0:W.cell? ⟨b,0,none⟩ = some u0) (h1:W.cell? ⟨b,1,none⟩ = some u1) :
  ((W.setCell ⟨b,0,none⟩ x).setCell ⟨b,1,none⟩ y).cell? ⟨b,0,none⟩ = some x ∧ ((W.setCell ⟨b,0,none⟩ x).setCell ⟨b,1,none⟩ y).cell? ⟨b,1,none⟩ = some y:=by
 have n0:(⟨b,0,none⟩:Addr) ≠ ⟨b,1,none⟩:=fun h=>by injection h with _ h;cases h
 have n1:(⟨b,1,none⟩:Addr) ≠ ⟨b,0,none⟩:=fun h=>n0 h.symm
 have e0:(W.setCell ⟨b,0,none⟩ x).cell? ⟨b,1,none⟩ = some u1:=(World.cell?_setCell_other _ _ _ _ n0).trans h1
 exact ⟨(World.cell?_setCell_other _ _ _ _ n1).trans (World.cell?_setCell_same _ _ _ h0),World.cell?_setCell_same _ _ _ e0⟩
set_option maxHeartbeats 400000 in
theorem getLocation_any (k:Nat) (g:Nat) (A:Option Addr) (c:Nat) (l:List Int) (r:List (List Int)) (pos line col:Int) (w:World)
  (hB:w.cell? ⟨g,0,none⟩ = some (.slice A l.length c)) (hr:Kd.C (Kd.int .u8) w A l.length l) (hc:l.length ≤ c) (hm:l.length ≤ 2000) (hrl:r.length ≤ 2000) (hp0:0 ≤ pos) (hp:pos ≤ 2000)
  (
  hk:location_zzLineEnds.f k l = some r) (hin:∀ m ∈ r,m.length = 2 ∧ 0 ≤ rd m 0 ∧ rd m 0 < rd m 1 ∧ rd m 1 ≤ l.length) (hres:locOf pos r 1 (pos + 1) = (line,col)) :
  Calls Tryz.prog 184 #[.pointer (some ⟨g,0,none⟩),.int .i64 pos] w fun e w'=>e = .returned (.agg #[.int .i64 line,.int .i64 col]) ∧ Below w.heap.size w w':=by
 have HB:=Aside0.mk hB
 have HR:=Aside0.mk hr
 have HK:=Aside0.mk hk
 have HIN:=Aside0.mk hin
 have HRES:=Aside0.mk hres
 have hB1:∀ o,(w.alloc o).cell? ⟨g,0,none⟩ = some (.slice A l.length c):=fun o=>old_cell (below_alloc (Below.refl _ _) o) hB
 have hB2:∀ o o',((w.alloc o).alloc o').cell? ⟨g,0,none⟩ = some (.slice A l.length c):=fun o o'=>old_cell (below_alloc (below_alloc (Below.refl _ _) o) o') hB
 clear hB hr hk hin hres
 have hrr:∀ o o',Kd.C (Kd.int .u8) ((w.alloc o).alloc o') A l.length l:=fun o o'=>Kd.C_below HR.out (below_alloc (below_alloc (Below.refl _ _) o) o')
 have HRR:=Aside0.mk hrr
 clear hrr
 go_enter Tryz.func184,Tryz.ntmps184
 go_wp2_with fail
 refine (location_zzLineEnds.calls k A c l r _ (HRR.out _ _) hc HK.out).mono ?_
 rintro e w1 ⟨v0,rfl,hS,hb1⟩
 obtain ⟨A1,c1,rfl,hc1,hC1⟩:=Kd.R_reads (Kd.S_R hS)
 have HC1:=Aside0.mk hC1
 have hbx0:w1.cell? ⟨w.heap.size,0,none⟩ = some (.int .i64 0):=by
  rw [hb1.cell (p:=⟨w.heap.size,0,none⟩) (by simp;omega)]
  go_simp
 have hbx1:w1.cell? ⟨w.heap.size,1,none⟩ = some (.int .i64 0):=by
  rw [hb1.cell (p:=⟨w.heap.size,1,none⟩) (by simp;omega)]
  go_simp
 have hfx0:w1.frozen? ⟨w.heap.size,0,none⟩ = false:=by
  rw [hb1.frozen (p:=⟨w.heap.size,0,none⟩) (by simp;omega)]
  go_simp
 have hfx1:w1.frozen? ⟨w.heap.size,1,none⟩ = false:=by
  rw [hb1.frozen (p:=⟨w.heap.size,1,none⟩) (by simp;omega)]
  go_simp
 have hz:w.heap.size < w1.heap.size:=by have:=hb1.size;simp at this;omega
 have hb0:Below w.heap.size w w1:=below_alloc (below_alloc (Below.refl _ _) _) _ |>.trans (hb1.mono (by simp;omega))
 have HB1:=Aside0.mk hb0
 have hB3:w1.cell? ⟨g,0,none⟩ = some (.slice A l.length c):=old_cell hb0 HB.out
 clear hS hb1 hC1 hB1 hB2 hb0
 go_wp2_with fail
 go_loopg [6,7,26] r.length (fun kq v6 v7 v26 wr=>∃ (i:Nat) (ln co:Int),v6 = .int .i64 ln ∧ v7 = .int .i64 co ∧ v26 = .int .i64 (i:Int) ∧ Aside0 (i ≤ r.length ∧ kq = r.length - i ∧ 0 ≤ ln ∧ ln ≤ i + 1 ∧ locOf pos (r.drop i) ln co = (line,col)) ∧ Drawn0 w1 wr)
 case atStart=>exact ⟨0,1,pos + 1,rfl,rfl,rfl,⟨by omega,by omega,by omega,by omega,HRES.out⟩,Drawn0.refl _⟩
 case round=>
  obtain ⟨i,ln,co,rfl,rfl,rfl,HA,⟨m,rfl⟩⟩:=hrel
  have hlen:r.length ≤ 9223372036854775807:=by omega
  have hln0:0 ≤ ln:=HA.out.2.2.1
  have hln1:ln ≤ 2001:=by have:=HA.out.1;have:=HA.out.2.2.2.1;omega
  have hiz:(i:Int) ≤ 2000:=by have:=HA.out.1;omega
  by_cases hlt:i < r.length
  ·have hltz:decide ((i:Int) < (r.length:Int)) = true:=decide_eq_true (by omega)
   have hi0:0 ≤ (i:Int):=by omega
   have hi1:(i:Int) < (r.length:Int):=by omega
   obtain ⟨ad,A0,c0,rfl,hcell,hc0,hC0⟩:=at_L1 HC1.out (i:Int) hi0 hi1
   obtain ⟨mi,hmi⟩:∃ mi,mi = rd_L1 r (i:Int):=⟨_,rfl⟩
   rw [← hmi] at hcell hc0 hC0
   rw [Int.toNat_natCast] at hcell
   have hmem:mi ∈ r:=by
    rw [hmi];unfold rd_L1
    rw [Int.toNat_natCast,List.getD_eq_getElem?_getD,List.getElem?_eq_getElem hlt]
    exact List.getElem_mem hlt
   have hdrop:r.drop i = mi :: r.drop (i + 1):=by
    rw [hmi];unfold rd_L1
    rw [Int.toNat_natCast,List.getD_eq_getElem?_getD,List.getElem?_eq_getElem hlt]
    exact List.drop_eq_getElem_cons hlt
   obtain ⟨hm2,hm0,hm01,hm1⟩:=HIN.out mi hmem
   obtain ⟨ad0,rfl,hx0⟩:=Kd.at_int hC0 0 (by omega) (by omega)
   obtain ⟨ad1,e1,hx1⟩:=Kd.at_int hC0 1 (by omega) (by omega)
   cases e1
   have hx0':w1.cell? ad0 = some (.int .i64 (rd mi 0)):=by rw [show ad0.add (Int.toNat 0) = ad0 from rfl] at hx0;exact hx0
   have hx1':w1.cell? ⟨ad0.block,ad0.off + 1,none⟩ = some (.int .i64 (rd mi 1)):=hx1
   have hne:¬ (c = (rd mi 0).toNat):=by omega
   have HD:=Aside0.mk hdrop
   clear hdrop hmi hmem hC0 hc0 hx0 hx1
   rw [hm2] at hcell
   clear hm2
   have hlc:(l.length:Int) ≤ 2000:=by omega
   have hlc':(l.length:Int) ≤ (c:Int):=by omega
   obtain ⟨x0,hx0e⟩:∃ x0,x0 = rd mi 0:=⟨_,rfl⟩
   obtain ⟨x1,hx1e⟩:∃ x1,x1 = rd mi 1:=⟨_,rfl⟩
   rw [← hx0e] at hx0' hm0 hm01 hne
   rw [← hx1e] at hx1' hm01 hm1
   have E0:=Aside0.mk hx0e
   have E1:=Aside0.mk hx1e
   clear hx0e hx1e
   by_cases hb:x0 < pos
   ·have hb1:decide (x0 < pos) = true:=decide_eq_true hb
    go_wp2_with fail
    go_quiet (fail)
    go_wp2_with fail
    all_goals
     go_roundg (r.length - (i + 1))
     case measure=>have:=HA.out;omega
     case rel=>
      refine ⟨i + 1,ln + 1,pos + 1 - x1,rfl,?_,by go_num,⟨by omega,rfl,by omega,by have:=HA.out;omega,?_⟩,by repeat (first | exact Drawn0.refl _ | apply Drawn0.step)⟩
      ·show Value.int .i64 _ = Value.int .i64 _
       congr 1;omega
      ·have:=HA.out.2.2.2.2
       rw [HD.out] at this
       simp only [locOf] at this
       rw [← E0.out,if_pos hb,← E1.out] at this
       exact this
   ·have hb1:decide (x0 < pos) = false:=decide_eq_false hb
    have hfin:(ln,co) = (line,col):=by
     have:=HA.out.2.2.2.2
     rw [HD.out] at this
     simp only [locOf] at this
     rw [← E0.out,if_neg hb] at this
     exact this
    have HF:=Aside0.mk hfin
    clear hfin
    go_wp2_with fail
    obtain ⟨q0,q1⟩:=box2 (W:=w1.drewN m) (b:=w.heap.size) (.int .i64 ln) (.int .i64 co) hbx0 hbx1
    refine bodyPost_ret (v:=.agg #[.int .i64 ln,.int .i64 co]) (by simp [results,Tryz.results184,go_sem,q0,q1]) rfl ⟨?_,?_⟩
    ·obtain ⟨h1,h2⟩:=Prod.mk.inj HF.out
     rw [h1,h2]
    ·exact ((pw_below_drewN HB1.out m).setCell (Nat.le_refl _) _).setCell (Nat.le_refl _) _
  ·have hltz:decide ((i:Int) < (r.length:Int)) = false:=decide_eq_false (by omega)
   have hfin:(ln,co) = (line,col):=by
    have:=HA.out.2.2.2.2
    rw [List.drop_of_length_le (by omega)] at this
    simpa [locOf] using this
   have HF:=Aside0.mk hfin
   clear hfin
   go_wp2_with fail
   obtain ⟨q0,q1⟩:=box2 (W:=w1.drewN m) (b:=w.heap.size) (.int .i64 ln) (.int .i64 co) hbx0 hbx1
   refine bodyPost_ret (v:=.agg #[.int .i64 ln,.int .i64 co]) (by simp [results,Tryz.results184,go_sem,q0,q1]) rfl ⟨?_,?_⟩
   ·obtain ⟨h1,h2⟩:=Prod.mk.inj HF.out
    rw [h1,h2]
   ·exact ((pw_below_drewN HB1.out m).setCell (Nat.le_refl _) _).setCell (Nat.le_refl _) _
end Go.Proofs.YtbobbognjmofdaaGreatDoor.PFnReadString
end
section
namespace Go.Proofs.YtbobbognjmofdaaGreatDoor.PFnReadString
open Go.RowKit Go.Proofs.YtbobbognjmofdaaGreatDoorW.PrintWords Go.Proofs.YtbobbognjmofdaaGreatDoorW.PrintLast Go.Proofs.YtbobbognjmofdaaGreatDoorW.PrintMore
set_option linter.unusedVariables false
set_option linter.unusedSimpArgs false
abbrev syntaxError:ByteArray:={ data:=#[83,121,110,116,97,120,32,69,114,114,111,114] }
set_option maxHeartbeats 1000000 in
theorem newError_any (s:ByteArray) (g nb pb cn cp:Nat) (A:Option Addr) (c:Nat) (pos:Int) (w:World)
  (hB:w.cell? ⟨g,0,none⟩ = some (.slice A s.size c)) (hr:Kd.C (Kd.int .u8) w A s.size (bytesOf s)) (hc:s.size ≤ c) (hs:s.size ≤ 2000) (hp0:0 ≤ pos) (hp:pos ≤ 2000)
  (
  hP:w.cell? ⟨pb,0,none⟩ = some (.int .i64 pos)) :
  Calls Tryz.prog 167 #[.string syntaxError,.slice (some ⟨nb,0,none⟩) 0 cn,.string ⟨#[]⟩,.pointer (some ⟨g,0,none⟩),.slice (some ⟨pb,0,none⟩) 1 cp,.slice none 0 0,.nilIface] w fun e w'=>(∃ q,e = .returned (.pointer (some ⟨q,0,none⟩))) ∧ Below w.heap.size w w':=by
 have HB:=Aside0.mk hB
 have HR:=Aside0.mk hr
 clear hB hr
 go_enter Tryz.func167,Tryz.ntmps167
 go_wp2_with fail
 have hP1:(w.alloc (.cells #[] 287)).cell? ⟨pb,0,none⟩ = some (.int .i64 pos):=old_cell (below_alloc (Below.refl _ _) _) hP
 clear hP
 refine wp_loop_rounds 2 ?_
 rw [rounds_succ]
 go_wp2_with fail
 have hB0:Below w.heap.size w (w.alloc (.cells #[] 287)):=below_alloc (Below.refl _ _) _
 have hl:(bytesOf s).length = s.size:=bytesOf_length s
 have hf:=lines_tell s hs (s.size + 1) 0 (3 * (s.size + 1)) [] (by omega) (by omega) (by simp) (by omega)
 refine (getLocation_any (3 * (s.size + 1)) g A c (bytesOf s) (ends s (s.size + 1) 0) pos _ _ _ (by rw [hl];exact old_cell hB0 HB.out) (by rw [hl];exact Kd.C_below HR.out hB0) (by omega) (by omega) (by have:=ends_len s (s.size + 1) 0 (by omega);omega) hp0 hp (by simpa [location_zzLineEnds.f] using hf) (by rw [hl];exact ends_in s (s.size + 1) 0) rfl).mono ?_
 rintro e w1 ⟨rfl,hb1⟩
 have HB1:=Aside0.mk (hB0.trans (hb1.mono (by simp)))
 clear hb1 hB0 hf hl hP1
 go_wp2_with fail
 rw [rounds_succ]
 go_wp2_with fail
 go_ret
 exact ⟨⟨_,rfl⟩,pw_below_drewN (below_alloc (below_alloc (below_alloc (below_alloc HB1.out _) _) _) _) 1⟩
set_option maxHeartbeats 1000000 in
theorem newError2_any (s:ByteArray) (g nb pb cn cp:Nat) (A:Option Addr) (c:Nat) (pos:Int) (w:World)
  (hB:w.cell? ⟨g,0,none⟩ = some (.slice A s.size c)) (hr:Kd.C (Kd.int .u8) w A s.size (bytesOf s)) (hc:s.size ≤ c) (hs:s.size ≤ 2000) (hp0:0 ≤ pos) (hp:pos ≤ 2000)
  (
  hP:w.cell? ⟨pb,0,none⟩ = some (.int .i64 pos)) :
  Calls Tryz.prog 138 #[.string syntaxError,.slice (some ⟨nb,0,none⟩) 0 cn,.string ⟨#[]⟩,.pointer (some ⟨g,0,none⟩),.slice (some ⟨pb,0,none⟩) 1 cp,.nilIface] w fun e w'=>(∃ q,e = .returned (.pointer (some ⟨q,0,none⟩))) ∧ Below w.heap.size w w':=by
 have HB:=Aside0.mk hB
 have HR:=Aside0.mk hr
 have HP:=Aside0.mk hP
 clear hB hr hP
 go_enter Tryz.func138,Tryz.ntmps138
 go_wp2_with fail
 refine (newError_any s g nb pb cn cp A c pos _ HB.out HR.out hc hs hp0 hp HP.out).mono ?_
 rintro e w1 ⟨⟨q,rfl⟩,hb1⟩
 have HB1:=Aside0.mk hb1
 clear hb1
 go_wp2_with fail
 go_ret
 exact ⟨⟨_,rfl⟩,HB1.out⟩
set_option maxHeartbeats 1000000 in
theorem synErr_any (s:ByteArray) (g:Nat) (A:Option Addr) (c:Nat) (pos:Int) (desc:ByteArray) (w:World)
  (
  hB:w.cell? ⟨g,0,none⟩ = some (.slice A s.size c)) (hr:Kd.C (Kd.int .u8) w A s.size (bytesOf s)) (hc:s.size ≤ c) (hs:s.size ≤ 2000) (hp0:0 ≤ pos) (hp:pos ≤ 2000) :
  Calls Tryz.prog 96 #[.pointer (some ⟨g,0,none⟩),.int .i64 pos,.string desc] w fun e w'=>(∃ q,e = .returned (.pointer (some ⟨q,0,none⟩))) ∧ Below w.heap.size w w':=by
 have HB:=Aside0.mk hB
 have HR:=Aside0.mk hr
 clear hB hr
 go_enter Tryz.func96,Tryz.ntmps96
 go_wp2_with fail
 have hB0:Below w.heap.size w ((w.alloc (.cells #[] 277)).alloc (.cells #[.int .i64 pos] 3)):=below_alloc (below_alloc (Below.refl _ _) _) _
 refine (newError2_any s g w.heap.size (w.heap.size + 1) 0 1 A c pos _ (old_cell hB0 HB.out) (Kd.C_below HR.out hB0) hc hs hp0 hp (by go_simp)).mono ?_
 rintro e w1 ⟨⟨q,rfl⟩,hb1⟩
 have HB1:=Aside0.mk (hB0.trans (hb1.mono (by simp;omega)))
 clear hb1 hB0
 go_wp2_with fail
 go_ret
 exact ⟨⟨_,rfl⟩,HB1.out⟩
end Go.Proofs.YtbobbognjmofdaaGreatDoor.PFnReadString
end
end
