import Derived.Test.YtbobbognjmofdaaGreatDoorV13
section
section
namespace Go.Proofs.YtbobbognjmofdaaGreatDoor.PBsv
open Go.RowKit Go.Proofs.YtbobbognjmofdaaGreatDoorW.PrintWords Go.Proofs.YtbobbognjmofdaaGreatDoorW.PrintLast Go.Proofs.YtbobbognjmofdaaGreatDoorW.PrintMore
attribute [local go_sem] max2_int min2_int max_two min_two
set_option linter.unusedVariables false
set_option linter.unusedSimpArgs false
mutual
def lexer_blockStringValue.j2:Nat → List ByteArray → Int → Option (ByteArray)
 | 0,_,_=>none
 | k + 1,x3,x4=>if x4 > 0 then (lexer_blockStringValue.l1 k x3 x4 (x3.length:Int) 0) else (lexer_blockStringValue.j4 k x3)
def lexer_blockStringValue.j4:Nat → List ByteArray → Option (ByteArray)
 | 0,_=>none
 | k + 1,x3=>lexer_blockStringValue.l2 k x3
def lexer_blockStringValue.j6:Nat → List ByteArray → Option (ByteArray)
 | 0,_=>none
 | k + 1,x3=>lexer_blockStringValue.l3 k x3
def lexer_blockStringValue.l3:Nat → List ByteArray → Option (ByteArray)
 | 0,_=>none
 | k + 1,x3=>if (x3.length:Int) > 0 then (if 0 ≤ (wrap64 ((x3.length:Int) - 1)) then (if (wrap64 ((x3.length:Int) - 1)) < (x3.length:Int) then ((lexer_lineIsBlank.f (rdOf ByteArray.empty x3 (wrap64 ((x3.length:Int) - 1)))).bind fun t121=>(if t121 = true then (if (wrap64 ((x3.length:Int) - 1)) ≤ (x3.length:Int) then (lexer_blockStringValue.l3 k (x3.take ((wrap64 ((x3.length:Int) - 1)):Int).toNat)) else (none)) else ((strings_Join.f x3 (⟨#[10]⟩:ByteArray)).bind fun t125=>(some t125)))) else (none)) else (none)) else ((strings_Join.f x3 (⟨#[10]⟩:ByteArray)).bind fun t126=>(some t126))
def lexer_blockStringValue.l2:Nat → List ByteArray → Option (ByteArray)
 | 0,_=>none
 | k + 1,x3=>if (x3.length:Int) > 0 then (if 0 < (x3.length:Int) then ((lexer_lineIsBlank.f (rdOf ByteArray.empty x3 0)).bind fun t116=>(if t116 = true then (if 1 ≤ (x3.length:Int) then (lexer_blockStringValue.l2 k (x3.drop (1:Int).toNat)) else (none)) else (lexer_blockStringValue.j6 k x3))) else (none)) else (lexer_blockStringValue.j6 k x3)
def lexer_blockStringValue.l1:Nat → List ByteArray → Int → Int → Int → Option (ByteArray)
 | 0,_,_,_,_=>none
 | k + 1,x3,x4,x44,x45=>if x45 < x44 then (if 0 ≤ x45 then (if x45 < (x3.length:Int) then (if x4 > ((rdOf ByteArray.empty x3 x45).size:Int) then (lexer_blockStringValue.l1 k x3 x4 x44 (wrap64 (x45 + 1))) else (if 0 ≤ x4 then (if x4 ≤ ((rdOf ByteArray.empty x3 x45).size:Int) then (lexer_blockStringValue.l1 k (x3.set (x45:Int).toNat ((rdOf ByteArray.empty x3 x45).extract (x4:Int).toNat (rdOf ByteArray.empty x3 x45).size)) x4 x44 (wrap64 (x45 + 1))) else (none)) else (none))) else (none)) else (none)) else (lexer_blockStringValue.j4 k x3)
def lexer_blockStringValue.l0:Nat → List ByteArray → Int → Int → Option (ByteArray)
 | 0,_,_,_=>none
 | k + 1,x3,x4,x5=>if x5 < (x3.length:Int) then (if 0 ≤ x5 then ((lexer_leadingWhitespaceLen.f (rdOf ByteArray.empty x3 x5)).bind fun t112=>(if t112 < ((rdOf ByteArray.empty x3 x5).size:Int) then (if x4 = (-1) then (lexer_blockStringValue.j1 k x3 x4 x5 t112 true) else (lexer_blockStringValue.j1 k x3 x4 x5 t112 (decide (t112 < x4)))) else (lexer_blockStringValue.j1 k x3 x4 x5 t112 false))) else (none)) else (lexer_blockStringValue.j2 k x3 x4)
def lexer_blockStringValue.j1:Nat → List ByteArray → Int → Int → Int → Bool → Option (ByteArray)
 | 0,_,_,_,_,_=>none
 | k + 1,x3,x4,x5,x7,x37=>if x37 = true then (if x7 = 0 then (lexer_blockStringValue.j2 k x3 x7) else (lexer_blockStringValue.l0 k x3 x7 (wrap64 (x5 + 1)))) else (lexer_blockStringValue.l0 k x3 x4 (wrap64 (x5 + 1)))
end
def lexer_blockStringValue.f (k:Nat) (a0:ByteArray):Option (ByteArray):=(lexer_zzLines.f k a0).bind fun t108=>(lexer_blockStringValue.l0 k t108 (-1) 1)
theorem append_empty (W:World) (A B:Option Addr) (n c d:Nat) (h:n ≤ c):(Builtin.append_ #[243,243] 243 #[.slice A n c,.slice B 0 d]).run Tryz.prog W = .ok (.slice A n c) W:=by
 obtain ⟨i0,hi,hzz⟩:=Option.map_eq_some_iff.1 info9
 simp only [Prod.mk.injEq] at hzz
 obtain ⟨hz0,hz1,hz2⟩:=hzz
 have hl:∀ (a:Addr) (W:World),(loadCells a 0).run Tryz.prog W = .ok #[] W:=fun a W=>by simp [loadCells,loadCellsFrom]
 cases A <;> cases B <;> simp [hl,Builtin.append_,run_underlying Tryz.underlying243,sizeOf,typeInfo,hi,Builtin.lenOf,Builtin.firstCells,h,storeCells]
set_option maxHeartbeats 8000000 in
set_option maxRecDepth 100000 in
theorem lexer_blockStringValue.calls (k:Nat) (a0:ByteArray) (r:ByteArray) (w:World) (h:lexer_blockStringValue.f k a0 = some r) :
  Calls Tryz.prog 149 #[.string a0] w fun e w'=>e = .returned (.string r) ∧ Below w.heap.size w w':=by
 have HB:=Aside0.mk (Below.refl w.heap.size w)
 have H:((lexer_zzLines.f k a0).bind fun t108=>(lexer_blockStringValue.l0 k t108 (-1) 1)) = some r:=h
 clear h
 replace H:=Option.bind_eq_some_iff.mp H
 obtain ⟨t108,A20,H⟩:=H
 replace H:(lexer_blockStringValue.l0 k t108 (-1) 1) = some r:=H
 have A2:=Aside0.mk A20
 clear A20
 have HC3:=Aside0.mk H
 clear H
 go_enter Tryz.func149,Tryz.ntmps149
 go_upto_block 0 with (first | ((with_reducible refine gate_callee (f:=172) rfl ?_);refine goesL_ (some 12) rfl rfl Tryz.func172 (by kernel_rfl) rfl #[.string a0] rfl (by (try simp only [List.map_toArray,List.map_cons,List.map_nil]);first | done | rfl | (simp only [List.length_drop,List.length_take];rfl)) ?_;(with_reducible refine (lexer_zzLines.calls k a0 t108 _ A2.out).mono ?_);rintro e w4 ⟨v109,rfl,ho0,hb⟩;refine ⟨_,rfl,?_⟩;have n0_:=Aside0.mk (Kd.R_lower ho0 (below_size (by repeat (first | (with_reducible first | exact HB.out | apply below_alloc | apply pw_below_drewN | apply below_drew1) | exact HB.out))));have n1_:=Aside0.mk (below_step (by repeat (first | (with_reducible first | exact HB.out | apply below_alloc | apply pw_below_drewN | apply below_drew1) | exact HB.out)) hb);clear HB;have HO110:=n0_;have HB:=n1_;clear n0_ n1_;(try clear hb);(try clear hb2);(try clear hk);(try clear hi);(try clear ho0)))
 (try simp only [Act.put,List.setIfInBounds_toArray,List.set_cons_zero,List.set_cons_succ])
 go_cut [4] (fun v4 wc=>∃ (kq:Nat) (x4_2:Int),v4 = .int .i64 x4_2 ∧ Aside0 (lexer_blockStringValue.j2 kq t108 x4_2 = some r) ∧ Aside0 (kq ≤ k) ∧ Aside0 (Kd.Q Kd.string 9 wc w.heap.size (fun _=>True) v109 t108) ∧ Aside0 (Below w.heap.size w wc))
 case first=>
  have H:=HC3.out
  clear HC3
  have H':=Aside0.mk H
  clear H
  go_wp2
  go_loopg [4,5] k (fun kq v4 v5 w'=>∃ (x4_1:Int) (x5_1:Int),v4 = .int .i64 x4_1 ∧ v5 = .int .i64 x5_1 ∧ Aside0 (lexer_blockStringValue.l0 kq t108 x4_1 x5_1 = some r) ∧ Aside0 (kq ≤ k) ∧ Aside0 (Kd.Q Kd.string 9 w' w.heap.size (fun _=>True) v109 t108) ∧ Aside0 (Below w.heap.size w w'))
  case atStart=>exact ⟨((-1)),(1),(by first | rfl | (simp;done) | (simp [*];done)),(by first | rfl | (simp;done) | (simp [*];done)),H',⟨Nat.le_refl _⟩,⟨Kd.Q_of_R (by (with_reducible repeat (first | apply Kd.R_alloc | apply Kd.R_drewN | apply Kd.R_drew));exact HO110.out)⟩,⟨by repeat (first | (with_reducible first | exact HB.out | apply below_alloc | apply pw_below_drewN | apply below_drew1) | exact HB.out)⟩⟩
  case round=>
   clear H'
   try clear c1
   try clear p2
   obtain ⟨x4_1,x5_1,rfl,rfl,HA,HK1,HO_3,HB⟩:=hrel
   cases gk with
   | zero=>exact absurd HA.out (by simp [lexer_blockStringValue.l0])
   | succ k1=>
    have H:=HA.out
    clear HA
    simp only [lexer_blockStringValue.l0] at H
    by_cases c5:x5_1 < (t108.length:Int)
    ·rw [if_pos c5] at H
     have c5b0:decide (x5_1 < (t108.length:Int)) = true:=decide_eq_true c5
     clear c5
     (first | rw [c5b0] | (simp only [i64_w,i32_w];rw [c5b0]) | skip)
     by_cases c6:0 ≤ x5_1
     ·rw [if_pos c6] at H
      have c6b0:decide (0 ≤ x5_1) = true:=decide_eq_true c6
      clear c6
      replace H:=Option.bind_eq_some_iff.mp H
      obtain ⟨t112,A70,H⟩:=H
      replace H:(if t112 < ((rdOf ByteArray.empty t108 x5_1).size:Int) then (if x4_1 = (-1) then (lexer_blockStringValue.j1 k1 t108 x4_1 x5_1 t112 true) else (lexer_blockStringValue.j1 k1 t108 x4_1 x5_1 t112 (decide (t112 < x4_1)))) else (lexer_blockStringValue.j1 k1 t108 x4_1 x5_1 t112 false)) = some r:=H
      have A7:=Aside0.mk A70
      clear A70
      have HC8:=Aside0.mk H
      clear H
      obtain ⟨Ao9,co9,eo9,_⟩:=Kd.Q_slice HO_3.out
      subst eo9
      have p111:0 ≤ (x5_1:Int):=of_decide_eq_true (by first | (with_reducible assumption) | assumption)
      have q111:x5_1 < (t108.length:Int):=of_decide_eq_true (by first | (with_reducible assumption) | assumption)
      obtain ⟨ad111,e111,hx111_0⟩:=Kd.at_string (Kd.Q_reads' HO_3.out).2.2 x5_1 p111 q111
      cases e111
      replace p111:=eq_true p111
      replace q111:=eq_true q111
      go_upto_region 8 with (first | ((with_reducible refine gate_callee (f:=173) rfl ?_);refine goesL_ (some 24) rfl rfl Tryz.func173 (by kernel_rfl) rfl #[.string (rdOf ByteArray.empty t108 x5_1)] rfl (by (try simp only [List.map_toArray,List.map_cons,List.map_nil]);first | done | rfl | (simp only [List.length_drop,List.length_take];rfl)) ?_;(with_reducible refine (lexer_leadingWhitespaceLen.calls (rdOf ByteArray.empty t108 x5_1) t112 _ A7.out).mono ?_);rintro e w10 ⟨rfl,hb⟩;refine ⟨_,rfl,?_⟩;have n0_:=Aside0.mk (Kd.Q_below (by (with_reducible repeat (first | apply Kd.Q_alloc | apply Kd.Q_drewN | apply Kd.Q_drew));exact HO_3.out) hb);have n1_:=Aside0.mk (below_step (by repeat (first | (with_reducible first | exact HB.out | apply below_alloc | apply pw_below_drewN | apply below_drew1) | exact HB.out)) hb);clear HO_3;clear HB;have HO_3:=n0_;have HB:=n1_;clear n0_ n1_;(try clear hb);(try clear hb2);(try clear hk);(try clear hi)))
      (try simp only [Act.put,List.setIfInBounds_toArray,List.set_cons_zero,List.set_cons_succ])
      go_cut [37] (fun v37 wc=>∃ (kq:Nat) (x37_7:Bool),v37 = .bool x37_7 ∧ Aside0 (lexer_blockStringValue.j1 kq t108 x4_1 x5_1 t112 x37_7 = some r) ∧ Aside0 (kq ≤ k1) ∧ Aside0 (Kd.Q Kd.string 9 wc w.heap.size (fun _=>True) (.slice (some ad111) t108.length co9) t108) ∧ Aside0 (Below w.heap.size w wc))
      case first=>
       have H:=HC8.out
       clear HC8
       by_cases c11:t112 < ((rdOf ByteArray.empty t108 x5_1).size:Int)
       ·rw [if_pos c11] at H
        have c11b0:decide (t112 < ((rdOf ByteArray.empty t108 x5_1).size:Int)) = true:=decide_eq_true c11
        clear c11
        (first | rw [c11b0] | (simp only [i64_w,i32_w];rw [c11b0]) | skip)
        by_cases c12:x4_1 = (-1)
        ·rw [if_pos c12] at H
         have c12b0:(x4_1 == (-1)) = true:=beq_iff_eq.mpr c12
         have c12b1:(x4_1 != (-1)) = false:=bne_eq_false_iff_eq.mpr c12
         clear c12
         have H':=Aside0.mk H
         clear H
         go_wp2
         go_meet
         case rel=>exact ⟨_,(true),(by first | rfl | (simp;done) | (simp [*];done)),H',⟨by have:=HK1.out;first | omega | exact Nat.le_refl _⟩,⟨by (with_reducible repeat (first | apply Kd.Q_alloc | apply Kd.Q_drewN | apply Kd.Q_drew));exact HO_3.out⟩,⟨by repeat (first | (with_reducible first | exact HB.out | apply below_alloc | apply pw_below_drewN | apply below_drew1) | exact HB.out)⟩⟩
        ·rw [if_neg c12] at H
         have c12b0:(x4_1 == (-1)) = false:=beq_eq_false_iff_ne.mpr c12
         have c12b1:(x4_1 != (-1)) = true:=bne_iff_ne.mpr c12
         have H':=Aside0.mk H
         clear H
         go_wp2
         go_meet
         case rel=>exact ⟨_,(decide (t112 < x4_1)),(by first | rfl | (simp;done) | (simp [*];done)),H',⟨by have:=HK1.out;first | omega | exact Nat.le_refl _⟩,⟨by (with_reducible repeat (first | apply Kd.Q_alloc | apply Kd.Q_drewN | apply Kd.Q_drew));exact HO_3.out⟩,⟨by repeat (first | (with_reducible first | exact HB.out | apply below_alloc | apply pw_below_drewN | apply below_drew1) | exact HB.out)⟩⟩
       ·rw [if_neg c11] at H
        have c11b0:decide (t112 < ((rdOf ByteArray.empty t108 x5_1).size:Int)) = false:=decide_eq_false c11
        clear c11
        (first | rw [c11b0] | (simp only [i64_w,i32_w];rw [c11b0]) | skip)
        have H':=Aside0.mk H
        clear H
        go_wp2
        go_meet
        case rel=>exact ⟨_,(false),(by first | rfl | (simp;done) | (simp [*];done)),H',⟨by have:=HK1.out;first | omega | exact Nat.le_refl _⟩,⟨by (with_reducible repeat (first | apply Kd.Q_alloc | apply Kd.Q_drewN | apply Kd.Q_drew));exact HO_3.out⟩,⟨by repeat (first | (with_reducible first | exact HB.out | apply below_alloc | apply pw_below_drewN | apply below_drew1) | exact HB.out)⟩⟩
      case rest=>
       clear HC8
       try clear c1
       try clear p1
       try clear q1
       try clear hx1
       try clear p2
       try clear c5
       try clear c5b0
       try clear c6
       try clear c6b0
       try clear c11
       try clear c11b0
       try clear p11
       try clear q11
       try clear hx11
       try clear c12
       try clear c12b0
       try clear c12b1
       try clear hx111_0
       try clear p111
       try clear p2
       try clear q111
       obtain ⟨kq,x37_7,rfl,HA,HJ7,HO_3,HB⟩:=hcut
       cases kq with
       | zero=>exact absurd HA.out (by simp [lexer_blockStringValue.j1])
       | succ kj7=>
        have H:=HA.out
        clear HA
        simp only [lexer_blockStringValue.j1] at H
        by_cases c13:x37_7 = true
        ·subst c13
         have H1:(if t112 = 0 then (lexer_blockStringValue.j2 kj7 t108 t112) else (lexer_blockStringValue.l0 kj7 t108 t112 (wrap64 (x5_1 + 1)))) = some r:=by rw [if_pos rfl] at H;exact H
         clear H
         have H:=H1
         clear H1
         by_cases c14:t112 = 0
         ·rw [if_pos c14] at H
          have c14b0:(t112 == 0) = true:=beq_iff_eq.mpr c14
          have c14b1:(t112 != 0) = false:=bne_eq_false_iff_eq.mpr c14
          clear c14
          have H':=Aside0.mk H
          clear H
          go_wp2
          go_meet
          case rel=>exact ⟨_,(t112),(by first | rfl | (simp;done) | (simp [*];done)),H',⟨by have:=HK1.out;have:=HJ7.out;first | omega | exact Nat.le_refl _⟩,⟨by (with_reducible repeat (first | apply Kd.Q_alloc | apply Kd.Q_drewN | apply Kd.Q_drew));exact HO_3.out⟩,⟨by repeat (first | (with_reducible first | exact HB.out | apply below_alloc | apply pw_below_drewN | apply below_drew1) | exact HB.out)⟩⟩
         ·rw [if_neg c14] at H
          have c14b0:(t112 == 0) = false:=beq_eq_false_iff_ne.mpr c14
          have c14b1:(t112 != 0) = true:=bne_iff_ne.mpr c14
          have H':=Aside0.mk H
          clear H
          go_wp2
          go_roundg kj7
          case measure=>have:=HK1.out;have:=HJ7.out;omega
          case rel=>exact ⟨(t112),(wrap64 (x5_1 + 1)),(by first | rfl | (simp;done) | (simp [*];done)),(by first | rfl | (simp;done) | (simp [*];done)),H',⟨by have:=HK1.out;have:=HJ7.out;omega⟩,⟨by (with_reducible repeat (first | apply Kd.Q_alloc | apply Kd.Q_drewN | apply Kd.Q_drew));exact HO_3.out⟩,⟨by repeat (first | (with_reducible first | exact HB.out | apply below_alloc | apply pw_below_drewN | apply below_drew1) | exact HB.out)⟩⟩
        ·replace c13:=Bool.eq_false_iff.mpr c13
         subst c13
         have H1:(lexer_blockStringValue.l0 kj7 t108 x4_1 (wrap64 (x5_1 + 1))) = some r:=by rw [if_neg (show ¬ (false = true) by decide)] at H;exact H
         clear H
         have H:=H1
         clear H1
         have H':=Aside0.mk H
         clear H
         go_wp2
         go_roundg kj7
         case measure=>have:=HK1.out;have:=HJ7.out;omega
         case rel=>exact ⟨(x4_1),(wrap64 (x5_1 + 1)),(by first | rfl | (simp;done) | (simp [*];done)),(by first | rfl | (simp;done) | (simp [*];done)),H',⟨by have:=HK1.out;have:=HJ7.out;omega⟩,⟨by (with_reducible repeat (first | apply Kd.Q_alloc | apply Kd.Q_drewN | apply Kd.Q_drew));exact HO_3.out⟩,⟨by repeat (first | (with_reducible first | exact HB.out | apply below_alloc | apply pw_below_drewN | apply below_drew1) | exact HB.out)⟩⟩
     ·rw [if_neg c6] at H
      exact absurd H (by simp)
    ·rw [if_neg c5] at H
     have c5b0:decide (x5_1 < (t108.length:Int)) = false:=decide_eq_false c5
     clear c5
     (first | rw [c5b0] | (simp only [i64_w,i32_w];rw [c5b0]) | skip)
     have H':=Aside0.mk H
     clear H
     obtain ⟨Ao15,co15,eo15,_⟩:=Kd.Q_slice HO_3.out
     subst eo15
     go_wp2
     go_meet
     case rel=>exact ⟨_,(x4_1),(by first | rfl | (simp;done) | (simp [*];done)),H',⟨by have:=HK1.out;first | omega | exact Nat.le_refl _⟩,⟨by (with_reducible repeat (first | apply Kd.Q_alloc | apply Kd.Q_drewN | apply Kd.Q_drew));exact HO_3.out⟩,⟨by repeat (first | (with_reducible first | exact HB.out | apply below_alloc | apply pw_below_drewN | apply below_drew1) | exact HB.out)⟩⟩
 case rest=>
  clear HC3
  try clear c1
  try clear p1
  try clear q1
  try clear hx1
  try clear p2
  try clear c5
  try clear c5b0
  try clear c6
  try clear c6b0
  try clear p6
  try clear c11
  try clear c11b0
  try clear p11
  try clear q11
  try clear hx11
  try clear c12
  try clear c12b0
  try clear c12b1
  try clear c13
  try clear c14
  try clear c14b0
  try clear c14b1
  try clear hx111_0
  try clear p1
  try clear p11
  try clear p111
  try clear p2
  try clear q1
  try clear q11
  try clear q111
  obtain ⟨kq,x4_2,rfl,HA,HJ2,HO_3,HB⟩:=hcut
  cases kq with
  | zero=>exact absurd HA.out (by simp [lexer_blockStringValue.j2])
  | succ kj2=>
   have H:=HA.out
   clear HA
   simp only [lexer_blockStringValue.j2] at H
   have HC16:=Aside0.mk H
   clear H
   go_upto_if 42 with (fail)
   go_cut [] (fun wc=>∃ (kq:Nat) (x3_15:List ByteArray),Aside0 (lexer_blockStringValue.j4 kq x3_15 = some r) ∧ Aside0 (kq ≤ kj2) ∧ Aside0 (Kd.Q Kd.string 9 wc w.heap.size (fun _=>True) v109 x3_15) ∧ Aside0 (Below w.heap.size w wc))
   case first=>
    have H:=HC16.out
    clear HC16
    by_cases c17:x4_2 > 0
    ·rw [if_pos c17] at H
     have c17b0:decide (0 < x4_2) = true:=decide_eq_true c17
     clear c17
     (first | rw [c17b0] | (simp only [i64_w,i32_w];rw [c17b0]) | skip)
     have H':=Aside0.mk H
     clear H
     obtain ⟨Ao18,co18,eo18,_⟩:=Kd.Q_slice HO_3.out
     subst eo18
     go_wp2
     go_loopg [45] kj2 (fun kq v45 w'=>∃ (x3_2:List ByteArray) (x45_2:Int),v45 = .int .i64 x45_2 ∧ Aside0 (lexer_blockStringValue.l1 kq x3_2 x4_2 (t108.length:Int) x45_2 = some r) ∧ Aside0 (kq ≤ kj2) ∧ Aside0 (Kd.Q Kd.string 9 w' w.heap.size (fun _=>True) (.slice Ao18 t108.length co18) x3_2) ∧ Aside0 (Below w.heap.size w w'))
     case atStart=>exact ⟨(t108),(0),(by first | rfl | (simp;done) | (simp [*];done)),H',⟨Nat.le_refl _⟩,⟨by (with_reducible repeat (first | apply Kd.Q_alloc | apply Kd.Q_drewN | apply Kd.Q_drew));exact HO_3.out⟩,⟨by repeat (first | (with_reducible first | exact HB.out | apply below_alloc | apply pw_below_drewN | apply below_drew1) | exact HB.out)⟩⟩
     case round=>
      clear H'
      try clear c1
      try clear p1
      try clear q1
      try clear hx1
      try clear p2
      try clear c5
      try clear c5b0
      try clear c6
      try clear c6b0
      try clear p6
      try clear c11
      try clear c11b0
      try clear p11
      try clear q11
      try clear hx11
      try clear c12
      try clear c12b0
      try clear c12b1
      try clear c13
      try clear c14
      try clear c14b0
      try clear c14b1
      try clear c17
      try clear c17b0
      try clear hx111_0
      try clear p1
      try clear p11
      try clear p111
      try clear p2
      try clear p6
      try clear q1
      try clear q11
      try clear q111
      obtain ⟨x3_2,x45_2,rfl,HA,HK2,HO_3,HB⟩:=hrel
      have hl3_2:=(Kd.Q_reads' HO_3.out).1
      rw [hl3_2] at HO_3
      (try simp only [hl3_2])
      cases gk with
      | zero=>exact absurd HA.out (by simp [lexer_blockStringValue.l1])
      | succ k2=>
       have H:=HA.out
       clear HA
       simp only [lexer_blockStringValue.l1] at H
       by_cases c19:x45_2 < (t108.length:Int)
       ·rw [if_pos c19] at H
        have c19b0:decide (x45_2 < (t108.length:Int)) = true:=decide_eq_true c19
        clear c19
        by_cases c20:0 ≤ x45_2
        ·rw [if_pos c20] at H
         have c20b0:decide (0 ≤ x45_2) = true:=decide_eq_true c20
         clear c20
         by_cases c21:x45_2 < (x3_2.length:Int)
         ·rw [if_pos c21] at H
          have c21b0:decide (x45_2 < (x3_2.length:Int)) = true:=decide_eq_true c21
          clear c21
          by_cases c22:x4_2 > ((rdOf ByteArray.empty x3_2 x45_2).size:Int)
          ·rw [if_pos c22] at H
           have c22b0:decide (((rdOf ByteArray.empty x3_2 x45_2).size:Int) < x4_2) = true:=decide_eq_true c22
           clear c22
           have H':=Aside0.mk H
           clear H
           have p113:0 ≤ (x45_2:Int):=of_decide_eq_true (by first | (with_reducible assumption) | assumption)
           have q113:x45_2 < (x3_2.length:Int):=of_decide_eq_true (by first | (with_reducible assumption) | assumption)
           obtain ⟨ad113,e113,hx113_0⟩:=Kd.at_string (Kd.Q_reads' HO_3.out).2.2 x45_2 p113 q113
           cases e113
           replace p113:=eq_true p113
           replace q113:=eq_true q113
           go_wp2
           (try simp only [← hl3_2])
           go_roundg k2
           case measure=>have:=HJ2.out;have:=HK2.out;omega
           case rel=>exact ⟨(x3_2),(wrap64 (x45_2 + 1)),(by first | rfl | (simp;done) | (simp [*];done)),H',⟨by have:=HJ2.out;have:=HK2.out;omega⟩,⟨by (try simp only [hl3_2]);(with_reducible repeat (first | apply Kd.Q_alloc | apply Kd.Q_drewN | apply Kd.Q_drew));exact HO_3.out⟩,⟨by repeat (first | (with_reducible first | exact HB.out | apply below_alloc | apply pw_below_drewN | apply below_drew1) | exact HB.out)⟩⟩
          ·rw [if_neg c22] at H
           have c22b0:decide (((rdOf ByteArray.empty x3_2 x45_2).size:Int) < x4_2) = false:=decide_eq_false c22
           clear c22
           by_cases c23:0 ≤ x4_2
           ·rw [if_pos c23] at H
            have c23b0:=eq_true c23
            have c23b1:decide (0 ≤ x4_2) = true:=decide_eq_true c23
            clear c23
            by_cases c24:x4_2 ≤ ((rdOf ByteArray.empty x3_2 x45_2).size:Int)
            ·rw [if_pos c24] at H
             have c24b0:=eq_true c24
             have c24b1:decide (x4_2 ≤ ((rdOf ByteArray.empty x3_2 x45_2).size:Int)) = true:=decide_eq_true c24
             clear c24
             obtain ⟨y114,hy114⟩:∃ y_:List ByteArray,y_ = (x3_2.set (x45_2:Int).toNat ((rdOf ByteArray.empty x3_2 x45_2).extract (x4_2:Int).toNat (rdOf ByteArray.empty x3_2 x45_2).size)):=⟨_,rfl⟩
             replace H:(lexer_blockStringValue.l1 k2 y114 x4_2 (t108.length:Int) (wrap64 (x45_2 + 1))) = some r:=by first | (rw [hy114];with_reducible exact H) | (have H2_:=(Option.bind_some _ _).symm.trans H;rw [hy114];with_reducible exact H2_) | (have H2_:=(Option.bind_some _ _).symm.trans H;with_reducible exact H2_) | with_reducible exact H | (rw [hy114];exact H) | exact H
             have Ny114:=Aside0.mk hy114
             clear hy114
             have H':=Aside0.mk H
             clear H
             have p113:0 ≤ (x45_2:Int):=of_decide_eq_true (by first | (with_reducible assumption) | assumption)
             have q113:x45_2 < (x3_2.length:Int):=of_decide_eq_true (by first | (with_reducible assumption) | assumption)
             obtain ⟨ad113,e113,hx113_0⟩:=Kd.at_string (Kd.Q_reads' HO_3.out).2.2 x45_2 p113 q113
             cases e113
             replace p113:=eq_true p113
             replace q113:=eq_true q113
             have p25:0 ≤ (x45_2:Int):=of_decide_eq_true (by first | (with_reducible assumption) | assumption)
             have q25:(x45_2:Int) < ((x3_2.length:Int):Int):=of_decide_eq_true (by first | (with_reducible assumption) | assumption)
             obtain ⟨go25,oo25,co25,eo25,gb25,gl25,cl25,HG25⟩:=Kd.Q_form HO_3.out (by omega)
             (first | cases eo25 | (injection eo25 with ea_ en_ ec_;(first | subst ea_ | (injection ea_ with ea_;subst ea_));subst ec_;clear en_))
             have GB25:=Aside0.mk gb25
             have GG25:=Aside0.mk HG25
             clear gb25 gl25 HG25
             (first | simp only [add_at] at hx113_0 | skip)
             obtain ⟨hx25_0,hf25_0⟩:=Kd.Q_cell (⟨#[]⟩:ByteArray) HO_3.out (x45_2:Int) p25 q25
             replace p25:=eq_true p25
             replace q25:=eq_true q25
             have HP26:=Kd.Q_putg HO_3.out (x45_2:Int) (of_decide_eq_true (by first | (with_reducible assumption) | assumption)) (by have h_:(x45_2:Int) < ((x3_2.length:Int):Int):=of_decide_eq_true (by first | (with_reducible assumption) | assumption);first | exact h_ | (have e_:=(Kd.Q_reads' HO_3.out).1;omega) | simpa using h_) ((rdOf ByteArray.empty x3_2 x45_2).extract (x4_2:Int).toNat (rdOf ByteArray.empty x3_2 x45_2).size)
             go_wp2_with (first | ((with_reducible refine gate_store (t:=9) (p:=59) rfl ?_);refine store_event (t:=9) (p:=59) (v:=?vo_w27) (w1:=(wr.setCell ⟨go25,oo25 + (x45_2:Int).toNat,none⟩ (.string ((rdOf ByteArray.empty x3_2 x45_2).extract (x4_2:Int).toNat (rdOf ByteArray.empty x3_2 x45_2).size)))) ?hg ?ho ?hn ?hr ?_;(case ho=>rfl);(case hg=>rfl);(case hn=>rfl);(case hr=>first | (go_simp;done) | (go_simp;rfl));intro w27 hw;have hg:wr.grownBy w27 (some go25):=(by rw [hw];exact HP26.2);have hp_:Kd.Q Kd.string 9 w27 w.heap.size (fun _=>True) (.slice (some ⟨go25,oo25,none⟩) x3_2.length co18) y114:=(by rw [hw,Ny114.out];exact HP26.1);clear HP26;have n0_:=Aside0.mk (hp_);have n1_:=Aside0.mk ((by rw [hw];exact below_set (HB.out) GB25.out:Below w.heap.size w w27));clear HO_3;clear HB;have HO_3:=n0_;have HB:=n1_;clear n0_ n1_;clear hg hw hp_))
             (try simp only [← hl3_2])
             go_roundg k2
             case measure=>have:=HJ2.out;have:=HK2.out;omega
             case rel=>exact ⟨(y114),(wrap64 (x45_2 + 1)),(by first | rfl | (simp;done) | (simp [*];done)),H',⟨by have:=HJ2.out;have:=HK2.out;omega⟩,⟨by (try simp only [hl3_2]);(with_reducible repeat (first | apply Kd.Q_alloc | apply Kd.Q_drewN | apply Kd.Q_drew));exact HO_3.out⟩,⟨by repeat (first | (with_reducible first | exact HB.out | apply below_alloc | apply pw_below_drewN | apply below_drew1) | exact HB.out)⟩⟩
            ·rw [if_neg c24] at H
             exact absurd H (by simp)
           ·rw [if_neg c23] at H
            exact absurd H (by simp)
         ·rw [if_neg c21] at H
          exact absurd H (by simp)
        ·rw [if_neg c20] at H
         exact absurd H (by simp)
       ·rw [if_neg c19] at H
        have c19b0:decide (x45_2 < (t108.length:Int)) = false:=decide_eq_false c19
        clear c19
        have H':=Aside0.mk H
        clear H
        have c19b9:decide (x45_2 < (x3_2.length:Int)) = false:=by rw [← hl3_2];exact c19b0
        go_wp2
        (try simp only [← hl3_2])
        go_meet
        case rel=>exact ⟨_,(x3_2),H',⟨by have:=HJ2.out;have:=HK2.out;first | omega | exact Nat.le_refl _⟩,⟨by (try simp only [hl3_2]);(with_reducible repeat (first | apply Kd.Q_alloc | apply Kd.Q_drewN | apply Kd.Q_drew));exact HO_3.out⟩,⟨by repeat (first | (with_reducible first | exact HB.out | apply below_alloc | apply pw_below_drewN | apply below_drew1) | exact HB.out)⟩⟩
    ·rw [if_neg c17] at H
     have c17b0:decide (0 < x4_2) = false:=decide_eq_false c17
     clear c17
     (first | rw [c17b0] | (simp only [i64_w,i32_w];rw [c17b0]) | skip)
     have H':=Aside0.mk H
     clear H
     go_wp2
     go_meet
     case rel=>exact ⟨_,(t108),H',⟨by have:=HJ2.out;first | omega | exact Nat.le_refl _⟩,⟨by (with_reducible repeat (first | apply Kd.Q_alloc | apply Kd.Q_drewN | apply Kd.Q_drew));exact HO_3.out⟩,⟨by repeat (first | (with_reducible first | exact HB.out | apply below_alloc | apply pw_below_drewN | apply below_drew1) | exact HB.out)⟩⟩
   case rest=>
    clear HC16
    try clear c1
    try clear p1
    try clear q1
    try clear hx1
    try clear c2
    try clear p2
    try clear q2
    try clear hx2
    try clear hf2
    try clear c5
    try clear c5b0
    try clear c6
    try clear c6b0
    try clear p6
    try clear c11
    try clear c11b0
    try clear p11
    try clear q11
    try clear hx11
    try clear c12
    try clear c12b0
    try clear c12b1
    try clear c13
    try clear c14
    try clear c14b0
    try clear c14b1
    try clear c17
    try clear c17b0
    try clear c19
    try clear c19b0
    try clear c20
    try clear c20b0
    try clear c21
    try clear c21b0
    try clear c22
    try clear c22b0
    try clear c23
    try clear c23b0
    try clear c23b1
    try clear c24
    try clear c24b0
    try clear c24b1
    try clear p25
    try clear q25
    try clear hx25
    try clear hf25
    try clear hx111_0
    try clear hx113_0
    try clear hx25_0
    try clear p1
    try clear p11
    try clear p111
    try clear p113
    try clear p2
    try clear p25
    try clear p6
    try clear q1
    try clear q11
    try clear q111
    try clear q113
    try clear q25
    obtain ⟨kq,x3_15,HA,HJ15,HO_3,HB⟩:=hcut
    cases kq with
    | zero=>exact absurd HA.out (by simp [lexer_blockStringValue.j4])
    | succ kj15=>
     have H:=HA.out
     clear HA
     simp only [lexer_blockStringValue.j4] at H
     have HC28:=Aside0.mk H
     clear H
     go_upto_block 4 with (fail)
     go_cut [3] (fun v3 wc=>∃ (kq:Nat) (x3_27:List ByteArray),Aside0 (lexer_blockStringValue.j6 kq x3_27 = some r) ∧ Aside0 (kq ≤ kj15) ∧ Aside0 (Kd.Q Kd.string 9 wc w.heap.size (fun _=>True) v3 x3_27) ∧ Aside0 (Below w.heap.size w wc))
     case first=>
      have H:=HC28.out
      clear HC28
      have H':=Aside0.mk H
      clear H
      go_wp2
      go_loopg [3] kj15 (fun kq v3 w'=>∃ (x3_3:List ByteArray),Aside0 (lexer_blockStringValue.l2 kq x3_3 = some r) ∧ Aside0 (kq ≤ kj15) ∧ Aside0 (Kd.Q Kd.string 9 w' w.heap.size (fun _=>True) v3 x3_3) ∧ Aside0 (Below w.heap.size w w'))
      case atStart=>exact ⟨(x3_15),H',⟨Nat.le_refl _⟩,⟨by (with_reducible repeat (first | apply Kd.Q_alloc | apply Kd.Q_drewN | apply Kd.Q_drew));exact HO_3.out⟩,⟨by repeat (first | (with_reducible first | exact HB.out | apply below_alloc | apply pw_below_drewN | apply below_drew1) | exact HB.out)⟩⟩
      case round=>
       clear H'
       try clear c1
       try clear p1
       try clear q1
       try clear hx1
       try clear c2
       try clear p2
       try clear q2
       try clear hx2
       try clear hf2
       try clear c5
       try clear c5b0
       try clear c6
       try clear c6b0
       try clear p6
       try clear c11
       try clear c11b0
       try clear p11
       try clear q11
       try clear hx11
       try clear c12
       try clear c12b0
       try clear c12b1
       try clear c13
       try clear c14
       try clear c14b0
       try clear c14b1
       try clear c17
       try clear c17b0
       try clear c19
       try clear c19b0
       try clear c20
       try clear c20b0
       try clear c21
       try clear c21b0
       try clear c22
       try clear c22b0
       try clear c23
       try clear c23b0
       try clear c23b1
       try clear c24
       try clear c24b0
       try clear c24b1
       try clear p25
       try clear q25
       try clear hx25
       try clear hf25
       try clear hx111_0
       try clear hx113_0
       try clear hx25_0
       try clear p1
       try clear p11
       try clear p111
       try clear p113
       try clear p2
       try clear p25
       try clear p6
       try clear q1
       try clear q11
       try clear q111
       try clear q113
       try clear q2
       try clear q25
       obtain ⟨x3_3,HA,HK3,HO_3,HB⟩:=hrel
       cases gk with
       | zero=>exact absurd HA.out (by simp [lexer_blockStringValue.l2])
       | succ k3=>
        have H:=HA.out
        clear HA
        simp only [lexer_blockStringValue.l2] at H
        by_cases c29:(x3_3.length:Int) > 0
        ·rw [if_pos c29] at H
         have c29b0:decide (0 < (x3_3.length:Int)) = true:=decide_eq_true c29
         have c29b1:decide (0 < x3_3.length) = true:=decide_eq_true (by omega)
         clear c29
         (first | rw [c29b0] | (simp only [i64_w,i32_w];rw [c29b0]) | skip)
         by_cases c30:0 < (x3_3.length:Int)
         ·rw [if_pos c30] at H
          have c30b0:decide (0 < (x3_3.length:Int)) = true:=decide_eq_true c30
          have c30b1:decide (0 < x3_3.length) = true:=decide_eq_true (by omega)
          clear c30
          replace H:=Option.bind_eq_some_iff.mp H
          obtain ⟨t116,A310,H⟩:=H
          replace H:(if t116 = true then (if 1 ≤ (x3_3.length:Int) then (lexer_blockStringValue.l2 k3 (x3_3.drop (1:Int).toNat)) else (none)) else (lexer_blockStringValue.j6 k3 x3_3)) = some r:=H
          have A31:=Aside0.mk A310
          clear A310
          by_cases c32:t116 = true
          ·subst c32
           have H1:(if 1 ≤ (x3_3.length:Int) then (lexer_blockStringValue.l2 k3 (x3_3.drop (1:Int).toNat)) else (none)) = some r:=by rw [if_pos rfl] at H;exact H
           clear H
           have H:=H1
           clear H1
           by_cases c33:1 ≤ (x3_3.length:Int)
           ·rw [if_pos c33] at H
            have c33b0:=eq_true c33
            have c33b1:decide (1 ≤ (x3_3.length:Int)) = true:=decide_eq_true c33
            clear c33
            obtain ⟨y117,hy117⟩:∃ y_:List ByteArray,y_ = (x3_3.drop (1:Int).toNat):=⟨_,rfl⟩
            replace H:(lexer_blockStringValue.l2 k3 y117) = some r:=by first | (rw [hy117];with_reducible exact H) | (have H2_:=(Option.bind_some _ _).symm.trans H;rw [hy117];with_reducible exact H2_) | (have H2_:=(Option.bind_some _ _).symm.trans H;with_reducible exact H2_) | with_reducible exact H | (rw [hy117];exact H) | exact H
            have Ny117:=Aside0.mk hy117
            clear hy117
            have H':=Aside0.mk H
            clear H
            obtain ⟨Ao34,co34,eo34,_⟩:=Kd.Q_slice HO_3.out
            subst eo34
            have p115:0 ≤ (0:Int):=(by omega)
            have q115:0 < (x3_3.length:Int):=of_decide_eq_true (by first | (with_reducible assumption) | assumption)
            obtain ⟨ad115,e115,hx115_0⟩:=Kd.at_string (Kd.Q_reads' HO_3.out).2.2 0 p115 q115
            cases e115
            have qi115:(0 < x3_3.length) = True:=eq_true (by omega)
            (try rw [show ((0:Int)).toNat = 0 from rfl] at hx115_0)
            (try rw [Addr.add_zero'] at hx115_0)
            replace p115:=eq_true p115
            replace q115:=eq_true q115
            go_wp2_with (first | (go_at_call 174;(with_reducible refine (lexer_lineIsBlank.calls (rdOf ByteArray.empty x3_3 0) true _ A31.out).mono ?_);rintro e w35 ⟨rfl,hb⟩;have n0_:=Aside0.mk (Kd.Q_below (by (with_reducible repeat (first | apply Kd.Q_alloc | apply Kd.Q_drewN | apply Kd.Q_drew));exact HO_3.out) hb);have n1_:=Aside0.mk (below_step (by repeat (first | (with_reducible first | exact HB.out | apply below_alloc | apply pw_below_drewN | apply below_drew1) | exact HB.out)) hb);clear HO_3;clear HB;have HO_3:=n0_;have HB:=n1_;clear n0_ n1_;(try clear hb);(try clear hb2);(try clear hk);(try clear hi);have q36:(1:Int) ≤ ((x3_3.length:Int):Int):=of_decide_eq_true (by first | (with_reducible assumption) | assumption);obtain ⟨i036,hi036,_,hsz36,_⟩:=info_parts info9;have hcut36:=cut_from (P:=Tryz.prog) 243 9 .i64 Tryz.underlying243 hi036 1 hsz36 (some ad115) x3_3.length co34 1 (by omega) q36;have hr36:=Kd.Q_drop (k:=(1:Int).toNat) HO_3.out (by omega);obtain ⟨A36,hA36⟩:∃ A1,A1 = (if co34 = (1:Int).toNat then (some ad115) else ((some ad115):Option Addr).map (·.add ((1:Int).toNat * 1))):=⟨_,rfl⟩;obtain ⟨c36,hc36⟩:∃ c1,c1 = co34 - (1:Int).toNat:=⟨_,rfl⟩;have hy36:y117.length = x3_3.length - (1:Int).toNat:=(by rw [Ny117.out,List.length_drop]);rw [← Ny117.out] at hr36;rw [← hy36,← hA36,← hc36] at hcut36;replace hr36:Kd.Q Kd.string 9 w35 w.heap.size (fun _=>True) (.slice A36 y117.length c36) y117:=(by rw [hA36,hc36,hy36];exact hr36);have HE36:Aside0 ((Value.slice A36 y117.length c36).ownBlock = (.slice (some ad115) x3_3.length co34:Value).ownBlock):=⟨by rw [hA36];split <;> (cases ((some ad115):Option Addr) <;> rfl)⟩;clear hy36 hi036 hsz36 HO_3 hA36 hc36;have HO119:=Aside0.mk hr36;clear hr36;replace q36:=eq_true q36))
            go_roundg k3
            case measure=>have:=HJ2.out;have:=HJ15.out;have:=HK3.out;omega
            case rel=>exact ⟨(y117),H',⟨by have:=HJ2.out;have:=HJ15.out;have:=HK3.out;omega⟩,⟨by (with_reducible repeat (first | apply Kd.Q_alloc | apply Kd.Q_drewN | apply Kd.Q_drew));exact HO119.out⟩,⟨by repeat (first | (with_reducible first | exact HB.out | apply below_alloc | apply pw_below_drewN | apply below_drew1) | exact HB.out)⟩⟩
           ·rw [if_neg c33] at H
            exact absurd H (by simp)
          ·replace c32:=Bool.eq_false_iff.mpr c32
           subst c32
           have H1:(lexer_blockStringValue.j6 k3 x3_3) = some r:=by rw [if_neg (show ¬ (false = true) by decide)] at H;exact H
           clear H
           have H:=H1
           clear H1
           have H':=Aside0.mk H
           clear H
           obtain ⟨Ao37,co37,eo37,_⟩:=Kd.Q_slice HO_3.out
           subst eo37
           have p115:0 ≤ (0:Int):=(by omega)
           have q115:0 < (x3_3.length:Int):=of_decide_eq_true (by first | (with_reducible assumption) | assumption)
           obtain ⟨ad115,e115,hx115_0⟩:=Kd.at_string (Kd.Q_reads' HO_3.out).2.2 0 p115 q115
           cases e115
           have qi115:(0 < x3_3.length) = True:=eq_true (by omega)
           (try rw [show ((0:Int)).toNat = 0 from rfl] at hx115_0)
           (try rw [Addr.add_zero'] at hx115_0)
           replace p115:=eq_true p115
           replace q115:=eq_true q115
           go_wp2_with (first | (go_at_call 174;(with_reducible refine (lexer_lineIsBlank.calls (rdOf ByteArray.empty x3_3 0) false _ A31.out).mono ?_);rintro e w38 ⟨rfl,hb⟩;have n0_:=Aside0.mk (Kd.Q_below (by (with_reducible repeat (first | apply Kd.Q_alloc | apply Kd.Q_drewN | apply Kd.Q_drew));exact HO_3.out) hb);have n1_:=Aside0.mk (below_step (by repeat (first | (with_reducible first | exact HB.out | apply below_alloc | apply pw_below_drewN | apply below_drew1) | exact HB.out)) hb);clear HO_3;clear HB;have HO_3:=n0_;have HB:=n1_;clear n0_ n1_;(try clear hb);(try clear hb2);(try clear hk);(try clear hi)))
           go_meet
           case rel=>exact ⟨_,(x3_3),H',⟨by have:=HJ2.out;have:=HJ15.out;have:=HK3.out;first | omega | exact Nat.le_refl _⟩,⟨by (with_reducible repeat (first | apply Kd.Q_alloc | apply Kd.Q_drewN | apply Kd.Q_drew));exact HO_3.out⟩,⟨by repeat (first | (with_reducible first | exact HB.out | apply below_alloc | apply pw_below_drewN | apply below_drew1) | exact HB.out)⟩⟩
         ·rw [if_neg c30] at H
          exact absurd H (by simp)
        ·rw [if_neg c29] at H
         have c29b0:decide (0 < (x3_3.length:Int)) = false:=decide_eq_false c29
         have c29b1:decide (0 < x3_3.length) = false:=decide_eq_false (by omega)
         clear c29
         (first | rw [c29b0] | (simp only [i64_w,i32_w];rw [c29b0]) | skip)
         have H':=Aside0.mk H
         clear H
         obtain ⟨Ao39,co39,eo39,_⟩:=Kd.Q_slice HO_3.out
         subst eo39
         go_wp2
         go_meet
         case rel=>exact ⟨_,(x3_3),H',⟨by have:=HJ2.out;have:=HJ15.out;have:=HK3.out;first | omega | exact Nat.le_refl _⟩,⟨by (with_reducible repeat (first | apply Kd.Q_alloc | apply Kd.Q_drewN | apply Kd.Q_drew));exact HO_3.out⟩,⟨by repeat (first | (with_reducible first | exact HB.out | apply below_alloc | apply pw_below_drewN | apply below_drew1) | exact HB.out)⟩⟩
     case rest=>
      clear HC28
      try clear c1
      try clear p1
      try clear q1
      try clear hx1
      try clear qi1
      try clear c2
      try clear p2
      try clear q2
      try clear hx2
      try clear hf2
      try clear c3
      try clear q3
      try clear c5
      try clear c5b0
      try clear c6
      try clear c6b0
      try clear p6
      try clear c11
      try clear c11b0
      try clear p11
      try clear q11
      try clear hx11
      try clear qi11
      try clear c12
      try clear c12b0
      try clear c12b1
      try clear c13
      try clear c14
      try clear c14b0
      try clear c14b1
      try clear c17
      try clear c17b0
      try clear c19
      try clear c19b0
      try clear c20
      try clear c20b0
      try clear c21
      try clear c21b0
      try clear c22
      try clear c22b0
      try clear c23
      try clear c23b0
      try clear c23b1
      try clear c24
      try clear c24b0
      try clear c24b1
      try clear p25
      try clear q25
      try clear hx25
      try clear hf25
      try clear c29
      try clear c29b0
      try clear c29b1
      try clear c30
      try clear c30b0
      try clear c30b1
      try clear c32
      try clear c33
      try clear c33b0
      try clear c33b1
      try clear c36
      try clear q36
      try clear hx111_0
      try clear hx113_0
      try clear hx115_0
      try clear hx25_0
      try clear p1
      try clear p11
      try clear p111
      try clear p113
      try clear p115
      try clear p2
      try clear p25
      try clear p6
      try clear q1
      try clear q11
      try clear q111
      try clear q113
      try clear q115
      try clear q2
      try clear q25
      try clear q36
      obtain ⟨kq,x3_27,HA,HJ27,HO_3,HB⟩:=hcut
      cases kq with
      | zero=>exact absurd HA.out (by simp [lexer_blockStringValue.j6])
      | succ kj27=>
       have H:=HA.out
       clear HA
       simp only [lexer_blockStringValue.j6] at H
       have H':=Aside0.mk H
       clear H
       go_wp2
       go_loopg [3] kj27 (fun kq v3 w'=>∃ (x3_4:List ByteArray),Aside0 (lexer_blockStringValue.l3 kq x3_4 = some r) ∧ Aside0 (kq ≤ kj27) ∧ Aside0 (Kd.Q Kd.string 9 w' w.heap.size (fun _=>True) v3 x3_4) ∧ Aside0 (Below w.heap.size w w'))
       case atStart=>exact ⟨(x3_27),H',⟨Nat.le_refl _⟩,⟨by (with_reducible repeat (first | apply Kd.Q_alloc | apply Kd.Q_drewN | apply Kd.Q_drew));exact HO_3.out⟩,⟨by repeat (first | (with_reducible first | exact HB.out | apply below_alloc | apply pw_below_drewN | apply below_drew1) | exact HB.out)⟩⟩
       case round=>
        clear H'
        try clear c1
        try clear p1
        try clear q1
        try clear hx1
        try clear qi1
        try clear c2
        try clear p2
        try clear q2
        try clear hx2
        try clear hf2
        try clear c3
        try clear q3
        try clear c5
        try clear c5b0
        try clear c6
        try clear c6b0
        try clear p6
        try clear c11
        try clear c11b0
        try clear p11
        try clear q11
        try clear hx11
        try clear qi11
        try clear c12
        try clear c12b0
        try clear c12b1
        try clear c13
        try clear c14
        try clear c14b0
        try clear c14b1
        try clear c17
        try clear c17b0
        try clear c19
        try clear c19b0
        try clear c20
        try clear c20b0
        try clear c21
        try clear c21b0
        try clear c22
        try clear c22b0
        try clear c23
        try clear c23b0
        try clear c23b1
        try clear c24
        try clear c24b0
        try clear c24b1
        try clear p25
        try clear q25
        try clear hx25
        try clear hf25
        try clear c29
        try clear c29b0
        try clear c29b1
        try clear c30
        try clear c30b0
        try clear c30b1
        try clear c32
        try clear c33
        try clear c33b0
        try clear c33b1
        try clear c36
        try clear q36
        try clear hx111_0
        try clear hx113_0
        try clear hx115_0
        try clear hx25_0
        try clear p1
        try clear p11
        try clear p111
        try clear p113
        try clear p115
        try clear p2
        try clear p25
        try clear p6
        try clear q1
        try clear q11
        try clear q111
        try clear q113
        try clear q115
        try clear q2
        try clear q25
        try clear q3
        try clear q36
        obtain ⟨x3_4,HA,HK4,HO_3,HB⟩:=hrel
        cases gk with
        | zero=>exact absurd HA.out (by simp [lexer_blockStringValue.l3])
        | succ k4=>
         have H:=HA.out
         clear HA
         simp only [lexer_blockStringValue.l3] at H
         by_cases c40:(x3_4.length:Int) > 0
         ·rw [if_pos c40] at H
          have c40b0:decide (0 < (x3_4.length:Int)) = true:=decide_eq_true c40
          have c40b1:decide (0 < x3_4.length) = true:=decide_eq_true (by omega)
          clear c40
          obtain ⟨ji41,hji41⟩:∃ j_:Int,(wrap64 ((x3_4.length:Int) - 1)) = j_:=⟨_,rfl⟩
          replace H:(if 0 ≤ (ji41) then (if (ji41) < (x3_4.length:Int) then ((lexer_lineIsBlank.f (rdOf ByteArray.empty x3_4 (ji41))).bind fun t121=>(if t121 = true then (if (ji41) ≤ (x3_4.length:Int) then (lexer_blockStringValue.l3 k4 (x3_4.take ((ji41):Int).toNat)) else (none)) else ((strings_Join.f x3_4 (⟨#[10]⟩:ByteArray)).bind fun t125=>(some t125)))) else (none)) else (none)) = some r:=by first | (rw [hji41] at H;exact H) | (simp only [hji41] at H ⊢;exact H)
          have hji41w:(IntKind.i64.wrap ((x3_4.length:Int) - 1)) = ji41:=(i64_w _).trans hji41
          by_cases c42:0 ≤ (ji41)
          ·rw [if_pos c42] at H
           have c42b0:decide (0 ≤ (ji41)) = true:=decide_eq_true c42
           clear c42
           by_cases c43:(ji41) < (x3_4.length:Int)
           ·rw [if_pos c43] at H
            have c43b0:decide ((ji41) < (x3_4.length:Int)) = true:=decide_eq_true c43
            clear c43
            replace H:=Option.bind_eq_some_iff.mp H
            obtain ⟨t121,A440,H⟩:=H
            replace H:(if t121 = true then (if (ji41) ≤ (x3_4.length:Int) then (lexer_blockStringValue.l3 k4 (x3_4.take ((ji41):Int).toNat)) else (none)) else ((strings_Join.f x3_4 (⟨#[10]⟩:ByteArray)).bind fun t125=>(some t125))) = some r:=H
            have A44:=Aside0.mk A440
            clear A440
            by_cases c45:t121 = true
            ·subst c45
             have H1:(if (ji41) ≤ (x3_4.length:Int) then (lexer_blockStringValue.l3 k4 (x3_4.take ((ji41):Int).toNat)) else (none)) = some r:=by rw [if_pos rfl] at H;exact H
             clear H
             have H:=H1
             clear H1
             by_cases c46:(ji41) ≤ (x3_4.length:Int)
             ·rw [if_pos c46] at H
              have c46b0:=eq_true c46
              have c46b1:decide ((ji41) ≤ (x3_4.length:Int)) = true:=decide_eq_true c46
              clear c46
              obtain ⟨y122,hy122⟩:∃ y_:List ByteArray,y_ = (x3_4.take ((ji41):Int).toNat):=⟨_,rfl⟩
              replace H:(lexer_blockStringValue.l3 k4 y122) = some r:=by first | (rw [hy122];with_reducible exact H) | (have H2_:=(Option.bind_some _ _).symm.trans H;rw [hy122];with_reducible exact H2_) | (have H2_:=(Option.bind_some _ _).symm.trans H;with_reducible exact H2_) | with_reducible exact H | (rw [hy122];exact H) | exact H
              have Ny122:=Aside0.mk hy122
              clear hy122
              have H':=Aside0.mk H
              clear H
              obtain ⟨Ao47,co47,eo47,_⟩:=Kd.Q_slice HO_3.out
              subst eo47
              have hz47_:x3_4.length ≤ 9223372036854775807:=(Kd.Q_reads' HO_3.out).2.2.2.1
              have p120:0 ≤ ((ji41):Int):=of_decide_eq_true (by first | (with_reducible assumption) | assumption)
              have q120:(ji41) < (x3_4.length:Int):=of_decide_eq_true (by first | (with_reducible assumption) | assumption)
              obtain ⟨ad120,e120,hx120_0⟩:=Kd.at_string (Kd.Q_reads' HO_3.out).2.2 (ji41) p120 q120
              cases e120
              replace p120:=eq_true p120
              replace q120:=eq_true q120
              go_wp2_with (first | (go_at_call 174;(with_reducible refine (lexer_lineIsBlank.calls (rdOf ByteArray.empty x3_4 (ji41)) true _ A44.out).mono ?_);rintro e w48 ⟨rfl,hb⟩;have n0_:=Aside0.mk (Kd.Q_below (by (with_reducible repeat (first | apply Kd.Q_alloc | apply Kd.Q_drewN | apply Kd.Q_drew));exact HO_3.out) hb);have n1_:=Aside0.mk (below_step (by repeat (first | (with_reducible first | exact HB.out | apply below_alloc | apply pw_below_drewN | apply below_drew1) | exact HB.out)) hb);clear HO_3;clear HB;have HO_3:=n0_;have HB:=n1_;clear n0_ n1_;(try clear hb);(try clear hb2);(try clear hk);(try clear hi);have q49:((ji41):Int) ≤ ((x3_4.length:Int):Int):=of_decide_eq_true (by first | (with_reducible assumption) | assumption);obtain ⟨i049,hi049,_,hsz49,_⟩:=info_parts info9;have hcut49:=cut_to (P:=Tryz.prog) 243 9 .i64 Tryz.underlying243 hi049 (some ad120) x3_4.length co47 (ji41) (of_decide_eq_true (by first | (with_reducible assumption) | assumption)) q49 (Kd.Q_reads' HO_3.out).2.1;have hr49:=Kd.Q_take (m:=((ji41):Int).toNat) HO_3.out (by omega);have hy49:y122.length = ((ji41):Int).toNat:=(by rw [Ny122.out,List.length_take];omega);rw [← Ny122.out] at hr49;rw [← hy49] at hr49 hcut49;clear hy49 hi049 hsz49 HO_3;have HO124:=Aside0.mk hr49;clear hr49;replace q49:=eq_true q49))
              have z0:0 ≤ ji41:=of_eq_true p120
              have z1:ji41 < (x3_4.length:Int):=of_eq_true q120
              have z2:x3_4.length ≤ 9223372036854775807:=hz47_
              have z3:(x3_4.length:Int) = ji41 + 1:=by have e_:=hji41;unfold wrap64 at e_;omega
              obtain ⟨i093,hi093,_⟩:=Option.map_eq_some_iff.1 info9
              obtain ⟨A93,hc93,_⟩:=print_cut (P:=Tryz.prog) 243 9 .i64 Tryz.underlying243 hi093 (by obtain ⟨i_,h_,hz_⟩:=Option.map_eq_some_iff.1 info9;rw [hi093] at h_;injection h_ with h_;subst h_;simp only [Prod.mk.injEq] at hz_;exact hz_.2.1) (some ad120) x3_4.length co47 x3_4.length (Nat.le_refl _)
              rw [Nat.sub_self,z3] at hc93
              have hap:=fun (W:World) (d:Nat)=>append_empty W (some ad120) A93 y122.length co47 d (Kd.Q_reads' HO124.out).2.1
              have hs92:IntKind.i64.wrap (ji41 + 1) = ji41 + 1:=by rw [i64_w];unfold wrap64;omega
              have Z3:=Aside0.mk z3
              clear z0 z1 z2 z3 hi093
              refine wp_region_quiet_lit (by kernel_rfl) (by kernel_rfl) ?_
              repeat (quiet_step (fail))
              refine BigFrame.wpQuiet_want (by kernel_rfl) (fun K hK=>?_)
              refine ⟨.slice (some ad120) y122.length co47,fun W _=>?_,hK _ ?_⟩
              ·unfold Oper.quietAt execOp
               simp only [resolve,invoke,builtin,Sem.run_bind,Sem.run_pure,Result.andThen_ok,List.map_toArray,List.map_cons,List.map_nil]
               have e89:(Sem.run Tryz.prog (Builtin.append_ #[243,243] 243 #[.slice (some ad120) y122.length co47,.slice A93 0 (co47 - x3_4.length)]) W) = .ok (.slice (some ad120) y122.length co47) W:=hap W _
               refine Eq.mpr (congrArg (fun z=>Oper.quietUpon Tryz.prog (fun w'=>∃ n,w' = w48.drewN n) W (Value.slice (some ad120) y122.length co47) (Result.andThen z fun a w'=>Result.ok (Next.value a) w')) e89) ?_
               exact ⟨rfl,rfl⟩
              clear hK K
              refine BigFrame.wpQuiet_want (by kernel_rfl) (fun K hK=>?_)
              refine BigFrame.quiet_assign (.tmp 94) rfl (hK _ ?_)
              clear hK K
              refine wpQuiet_nil ?_
              intro _ hw'
              obtain ⟨nq,hw''⟩:=hw'
              subst hw''
              go_simp
              go_wp2
              go_roundg k4
              case measure=>have:=HJ2.out;have:=HJ15.out;have:=HJ27.out;have:=HK4.out;omega
              case rel=>exact ⟨(y122),H',⟨by have:=HJ2.out;have:=HJ15.out;have:=HJ27.out;have:=HK4.out;omega⟩,⟨by (with_reducible repeat (first | apply Kd.Q_alloc | apply Kd.Q_drewN | apply Kd.Q_drew));exact HO124.out⟩,⟨by repeat (first | (with_reducible first | exact HB.out | apply below_alloc | apply pw_below_drewN | apply below_drew1) | exact HB.out)⟩⟩
             ·rw [if_neg c46] at H
              exact absurd H (by simp)
            ·replace c45:=Bool.eq_false_iff.mpr c45
             subst c45
             have H1:((strings_Join.f x3_4 (⟨#[10]⟩:ByteArray)).bind fun t125=>(some t125)) = some r:=by rw [if_neg (show ¬ (false = true) by decide)] at H;exact H
             clear H
             have H:=H1
             clear H1
             replace H:=Option.bind_eq_some_iff.mp H
             obtain ⟨t125,A500,H⟩:=H
             replace H:(some t125) = some r:=H
             have A50:=Aside0.mk A500
             clear A500
             obtain rfl:=Option.some.inj H
             obtain ⟨Ao51,co51,eo51,_⟩:=Kd.Q_slice HO_3.out
             subst eo51
             have p120:0 ≤ ((ji41):Int):=of_decide_eq_true (by first | (with_reducible assumption) | assumption)
             have q120:(ji41) < (x3_4.length:Int):=of_decide_eq_true (by first | (with_reducible assumption) | assumption)
             obtain ⟨ad120,e120,hx120_0⟩:=Kd.at_string (Kd.Q_reads' HO_3.out).2.2 (ji41) p120 q120
             cases e120
             replace p120:=eq_true p120
             replace q120:=eq_true q120
             go_wp2_with (first | (go_at_call 174;(with_reducible refine (lexer_lineIsBlank.calls (rdOf ByteArray.empty x3_4 (ji41)) false _ A44.out).mono ?_);rintro e w52 ⟨rfl,hb⟩;have n0_:=Aside0.mk (Kd.Q_below (by (with_reducible repeat (first | apply Kd.Q_alloc | apply Kd.Q_drewN | apply Kd.Q_drew));exact HO_3.out) hb);have n1_:=Aside0.mk (below_step (by repeat (first | (with_reducible first | exact HB.out | apply below_alloc | apply pw_below_drewN | apply below_drew1) | exact HB.out)) hb);clear HO_3;clear HB;have HO_3:=n0_;have HB:=n1_;clear n0_ n1_;(try clear hb);(try clear hb2);(try clear hk);(try clear hi)) | ((with_reducible refine gate_callee (f:=175) rfl ?_);refine goesL_ (some 96) rfl rfl Tryz.func175 (by kernel_rfl) rfl #[.slice (some ad120) x3_4.length co51,.string (⟨#[10]⟩:ByteArray)] rfl (by (try simp only [List.map_toArray,List.map_cons,List.map_nil]);first | done | rfl | (simp only [List.length_drop,List.length_take];rfl)) ?_;(with_reducible refine (strings_Join.calls _ _ x3_4 (⟨#[10]⟩:ByteArray) t125 _ ?side1 ?side2 A50.out).mono ?_);(case side1=>repeat (first | exact (Kd.Q_reads' HO_3.out).2.2 | (with_reducible refine Kd.C_alloc ?_ _) | (with_reducible refine Kd.C_drewN ?_ _) | (with_reducible refine Kd.C_drew ?_)));(case side2=>exact (Kd.Q_reads' HO_3.out).2.1);rintro e w53 ⟨rfl,hb⟩;refine ⟨_,rfl,?_⟩;have n0_:=Aside0.mk (Kd.Q_below (by (with_reducible repeat (first | apply Kd.Q_alloc | apply Kd.Q_drewN | apply Kd.Q_drew));exact HO_3.out) hb);have n1_:=Aside0.mk (below_step (by repeat (first | (with_reducible first | exact HB.out | apply below_alloc | apply pw_below_drewN | apply below_drew1) | exact HB.out)) hb);clear HO_3;clear HB;have HO_3:=n0_;have HB:=n1_;clear n0_ n1_;(try clear hb);(try clear hb2);(try clear hk);(try clear hi)))
             go_ret
             exact ⟨by first | rfl | (simp [errW_none,errW_some] <;> rfl) | (simp only [← hji41];first | rfl | (simp [errW_none,errW_some] <;> rfl)) | (simp [*,errW_none,errW_some] <;> rfl),by repeat (first | (with_reducible first | exact HB.out | apply below_alloc | apply pw_below_drewN | apply below_drew1) | exact HB.out)⟩
           ·rw [if_neg c43] at H
            exact absurd H (by simp)
          ·rw [if_neg c42] at H
           exact absurd H (by simp)
         ·rw [if_neg c40] at H
          have c40b0:decide (0 < (x3_4.length:Int)) = false:=decide_eq_false c40
          have c40b1:decide (0 < x3_4.length) = false:=decide_eq_false (by omega)
          clear c40
          replace H:=Option.bind_eq_some_iff.mp H
          obtain ⟨t126,A540,H⟩:=H
          replace H:(some t126) = some r:=H
          have A54:=Aside0.mk A540
          clear A540
          obtain rfl:=Option.some.inj H
          obtain ⟨Ao55,co55,eo55,_⟩:=Kd.Q_slice HO_3.out
          subst eo55
          go_wp2_with (first | ((with_reducible refine gate_callee (f:=175) rfl ?_);refine goesL_ (some 96) rfl rfl Tryz.func175 (by kernel_rfl) rfl #[.slice Ao55 x3_4.length co55,.string (⟨#[10]⟩:ByteArray)] rfl (by (try simp only [List.map_toArray,List.map_cons,List.map_nil]);first | done | rfl | (simp only [List.length_drop,List.length_take];rfl)) ?_;(with_reducible refine (strings_Join.calls _ _ x3_4 (⟨#[10]⟩:ByteArray) t126 _ ?side1 ?side2 A54.out).mono ?_);(case side1=>repeat (first | exact (Kd.Q_reads' HO_3.out).2.2 | (with_reducible refine Kd.C_alloc ?_ _) | (with_reducible refine Kd.C_drewN ?_ _) | (with_reducible refine Kd.C_drew ?_)));(case side2=>exact (Kd.Q_reads' HO_3.out).2.1);rintro e w56 ⟨rfl,hb⟩;refine ⟨_,rfl,?_⟩;have n0_:=Aside0.mk (Kd.Q_below (by (with_reducible repeat (first | apply Kd.Q_alloc | apply Kd.Q_drewN | apply Kd.Q_drew));exact HO_3.out) hb);have n1_:=Aside0.mk (below_step (by repeat (first | (with_reducible first | exact HB.out | apply below_alloc | apply pw_below_drewN | apply below_drew1) | exact HB.out)) hb);clear HO_3;clear HB;have HO_3:=n0_;have HB:=n1_;clear n0_ n1_;(try clear hb);(try clear hb2);(try clear hk);(try clear hi)))
          go_ret
          exact ⟨by first | rfl | (simp [errW_none,errW_some] <;> rfl) | (simp [*,errW_none,errW_some] <;> rfl),by repeat (first | (with_reducible first | exact HB.out | apply below_alloc | apply pw_below_drewN | apply below_drew1) | exact HB.out)⟩
end Go.Proofs.YtbobbognjmofdaaGreatDoor.PBsv
end
end
