import Derived.Test.YtbobbognjmofdaaGreatDoorV22
section
namespace Go.Proofs.YtbobbognjmofdaaGreatDoor.Lex
open Go.RowKit Go.Proofs.YtbobbognjmofdaaGreatDoorW.PrintWords Go.Proofs.YtbobbognjmofdaaGreatDoorW.PrintLast Go.Proofs.YtbobbognjmofdaaGreatDoorW.PrintMore
open Go.Proofs.YtbobbognjmofdaaGreatDoor.Ptext
set_option linter.unusedVariables false
set_option linter.unusedSimpArgs false
theorem zero141:(Tryz.prog.info? 141).map (·.zero) = some (some (.pointer none)):=by kernel_rfl
theorem zero144:(Tryz.prog.info? 144).map (·.zero) = some (some (.pointer none)):=by kernel_rfl
theorem zero147:(Tryz.prog.info? 147).map (·.zero) = some (some (.pointer none)):=by kernel_rfl
theorem zero149:(Tryz.prog.info? 149).map (·.zero) = some (some (.pointer none)):=by kernel_rfl
theorem zero151:(Tryz.prog.info? 151).map (·.zero) = some (some (.pointer none)):=by kernel_rfl
theorem zero154:(Tryz.prog.info? 154).map (·.zero) = some (some (.pointer none)):=by kernel_rfl
theorem zero156:(Tryz.prog.info? 156).map (·.zero) = some (some (.pointer none)):=by kernel_rfl
def Takes (base g:Nat) (d ns:List S50) (w:World) (e:Ending) (w':World):Prop:=e = .returned (.tuple #[]) ∧ Tk w' base g (d ++ ns) ∧ Below base w w' ∧ KeepX w w'
set_option maxRecDepth 8000 in
set_option maxHeartbeats 4000000 in
theorem take_int (base g p q:Nat) (k:ByteArray) (s:ByteArray) (d:List S50) (w:World) (h:Tk w base g d) (hb:base ≤ w.heap.size) (hp:w.heap[p]? = some (.cells #[.string k,ptr q,.string s] 146 (0,0))) (hq:LocAt w q) (hlen:d.length + 1 ≤ 100000) :
  Calls Tryz.prog 48 #[.pointer (some ⟨g,0,none⟩),.iface 144 (ptr p)] w (Takes base g d (made ⟨12,⟨#[]⟩,⟨#[]⟩,s,0,0⟩ []) w):=by
 have HT:=Aside0.mk h
 have HQ:=Aside0.mk hq
 have c1:=(blk_cell hp 1).trans rfl
 have c2:=(blk_cell hp 2).trans rfl
 have hpl:=blk_lt hp
 have HPU:=Aside0.mk (fun W (hw:Below w.heap.size w W)=>put_any base g q ⟨12,⟨#[]⟩,⟨#[]⟩,s,0,0⟩ d [] .nilFunc W (HT.out.below hw) (Nat.le_trans hb hw.size) (HQ.out.below hw) (by simpa using hlen) (.inl ⟨rfl,rfl⟩))
 clear h hp hq
 have t141:=run_assert_not Tryz.underlying141 (show 144 ≠ 141 by decide) zero141 (.pointer (some ⟨p,0,none⟩))
 have t144:=run_assert_is Tryz.underlying144 (.pointer (some ⟨p,0,none⟩))
 go_enter Tryz.func48,Tryz.ntmps48
 go_wp2_with fail
 go_region_with (go_at_call 75;refine (HPU.out _ ?_).mono ?_;(first | exact below_drew (below_alloc (Below.refl _ _) _) | exact below_drew (below_alloc (below_alloc (Below.refl _ _) _) _));rintro e w3 ⟨rfl,hT3,hB3,hK3⟩;have HT3:=Aside0.mk hT3;have HB3:=Aside0.mk hB3;have HK3:=Aside0.mk hK3;clear hT3 hB3 hK3)
 all_goals
  go_wp2_with fail
  go_end0
  first
  | (
    have hb1:Below w.heap.size w (w.alloc (.cells #[.pointer (some ⟨g,0,none⟩)] 84)).drew:=below_drew (below_alloc (Below.refl _ _) _)
    exact ⟨rfl,HT3.out,(hb1.mono hb).trans HB3.out,(KeepX.of_below hb1).trans HK3.out⟩)
  | (
    have hb1:∀ o:Obj,Below w.heap.size w ((w.alloc (.cells #[.pointer (some ⟨g,0,none⟩)] 84)).alloc o).drew:=fun o=>below_drew (below_alloc (below_alloc (Below.refl _ _) _) _)
    exact ⟨rfl,HT3.out,((hb1 _).mono hb).trans HB3.out,(KeepX.of_below (hb1 _)).trans HK3.out⟩)
set_option maxRecDepth 8000 in
set_option maxHeartbeats 4000000 in
theorem take_float (base g p q:Nat) (k:ByteArray) (s:ByteArray) (d:List S50) (w:World) (h:Tk w base g d) (hb:base ≤ w.heap.size) (hp:w.heap[p]? = some (.cells #[.string k,ptr q,.string s] 148 (0,0))) (hq:LocAt w q) (hlen:d.length + 1 ≤ 100000) :
  Calls Tryz.prog 48 #[.pointer (some ⟨g,0,none⟩),.iface 147 (ptr p)] w (Takes base g d (made ⟨13,⟨#[]⟩,⟨#[]⟩,s,0,0⟩ []) w):=by
 have HT:=Aside0.mk h
 have HQ:=Aside0.mk hq
 have c1:=(blk_cell hp 1).trans rfl
 have c2:=(blk_cell hp 2).trans rfl
 have hpl:=blk_lt hp
 have HPU:=Aside0.mk (fun W (hw:Below w.heap.size w W)=>put_any base g q ⟨13,⟨#[]⟩,⟨#[]⟩,s,0,0⟩ d [] .nilFunc W (HT.out.below hw) (Nat.le_trans hb hw.size) (HQ.out.below hw) (by simpa using hlen) (.inl ⟨rfl,rfl⟩))
 clear h hp hq
 have t141:=run_assert_not Tryz.underlying141 (show 147 ≠ 141 by decide) zero141 (.pointer (some ⟨p,0,none⟩))
 have t144:=run_assert_not Tryz.underlying144 (show 147 ≠ 144 by decide) zero144 (.pointer (some ⟨p,0,none⟩))
 have t147:=run_assert_is Tryz.underlying147 (.pointer (some ⟨p,0,none⟩))
 go_enter Tryz.func48,Tryz.ntmps48
 go_wp2_with fail
 go_region_with (go_at_call 75;refine (HPU.out _ ?_).mono ?_;(first | exact below_drew (below_alloc (Below.refl _ _) _) | exact below_drew (below_alloc (below_alloc (Below.refl _ _) _) _));rintro e w3 ⟨rfl,hT3,hB3,hK3⟩;have HT3:=Aside0.mk hT3;have HB3:=Aside0.mk hB3;have HK3:=Aside0.mk hK3;clear hT3 hB3 hK3)
 all_goals
  go_wp2_with fail
  go_end0
  first
  | (
    have hb1:Below w.heap.size w (w.alloc (.cells #[.pointer (some ⟨g,0,none⟩)] 84)).drew:=below_drew (below_alloc (Below.refl _ _) _)
    exact ⟨rfl,HT3.out,(hb1.mono hb).trans HB3.out,(KeepX.of_below hb1).trans HK3.out⟩)
  | (
    have hb1:∀ o:Obj,Below w.heap.size w ((w.alloc (.cells #[.pointer (some ⟨g,0,none⟩)] 84)).alloc o).drew:=fun o=>below_drew (below_alloc (below_alloc (Below.refl _ _) _) _)
    exact ⟨rfl,HT3.out,((hb1 _).mono hb).trans HB3.out,(KeepX.of_below (hb1 _)).trans HK3.out⟩)
set_option maxRecDepth 8000 in
set_option maxHeartbeats 4000000 in
theorem take_text (base g p q:Nat) (k:ByteArray) (s:ByteArray) (d:List S50) (w:World) (h:Tk w base g d) (hb:base ≤ w.heap.size) (hp:w.heap[p]? = some (.cells #[.string k,ptr q,.string s] 150 (0,0))) (hq:LocAt w q) (hlen:d.length + 1 ≤ 100000) :
  Calls Tryz.prog 48 #[.pointer (some ⟨g,0,none⟩),.iface 149 (ptr p)] w (Takes base g d (made ⟨14,⟨#[]⟩,⟨#[]⟩,s,0,0⟩ []) w):=by
 have HT:=Aside0.mk h
 have HQ:=Aside0.mk hq
 have c1:=(blk_cell hp 1).trans rfl
 have c2:=(blk_cell hp 2).trans rfl
 have hpl:=blk_lt hp
 have HPU:=Aside0.mk (fun W (hw:Below w.heap.size w W)=>put_any base g q ⟨14,⟨#[]⟩,⟨#[]⟩,s,0,0⟩ d [] .nilFunc W (HT.out.below hw) (Nat.le_trans hb hw.size) (HQ.out.below hw) (by simpa using hlen) (.inl ⟨rfl,rfl⟩))
 clear h hp hq
 have t141:=run_assert_not Tryz.underlying141 (show 149 ≠ 141 by decide) zero141 (.pointer (some ⟨p,0,none⟩))
 have t144:=run_assert_not Tryz.underlying144 (show 149 ≠ 144 by decide) zero144 (.pointer (some ⟨p,0,none⟩))
 have t147:=run_assert_not Tryz.underlying147 (show 149 ≠ 147 by decide) zero147 (.pointer (some ⟨p,0,none⟩))
 have t149:=run_assert_is Tryz.underlying149 (.pointer (some ⟨p,0,none⟩))
 go_enter Tryz.func48,Tryz.ntmps48
 go_wp2_with fail
 go_region_with (go_at_call 75;refine (HPU.out _ ?_).mono ?_;(first | exact below_drew (below_alloc (Below.refl _ _) _) | exact below_drew (below_alloc (below_alloc (Below.refl _ _) _) _));rintro e w3 ⟨rfl,hT3,hB3,hK3⟩;have HT3:=Aside0.mk hT3;have HB3:=Aside0.mk hB3;have HK3:=Aside0.mk hK3;clear hT3 hB3 hK3)
 all_goals
  go_wp2_with fail
  go_end0
  first
  | (
    have hb1:Below w.heap.size w (w.alloc (.cells #[.pointer (some ⟨g,0,none⟩)] 84)).drew:=below_drew (below_alloc (Below.refl _ _) _)
    exact ⟨rfl,HT3.out,(hb1.mono hb).trans HB3.out,(KeepX.of_below hb1).trans HK3.out⟩)
  | (
    have hb1:∀ o:Obj,Below w.heap.size w ((w.alloc (.cells #[.pointer (some ⟨g,0,none⟩)] 84)).alloc o).drew:=fun o=>below_drew (below_alloc (below_alloc (Below.refl _ _) _) _)
    exact ⟨rfl,HT3.out,((hb1 _).mono hb).trans HB3.out,(KeepX.of_below (hb1 _)).trans HK3.out⟩)
set_option maxRecDepth 8000 in
set_option maxHeartbeats 4000000 in
theorem take_yes (base g p q:Nat) (k:ByteArray)  (d:List S50) (w:World) (h:Tk w base g d) (hb:base ≤ w.heap.size) (hp:w.heap[p]? = some (.cells #[.string k,ptr q,.bool true] 153 (0,0))) (hq:LocAt w q) (hlen:d.length + 1 ≤ 100000) :
  Calls Tryz.prog 48 #[.pointer (some ⟨g,0,none⟩),.iface 151 (ptr p)] w (Takes base g d (made ⟨15,⟨#[]⟩,⟨#[]⟩,⟨#[]⟩,1,0⟩ []) w):=by
 have HT:=Aside0.mk h
 have HQ:=Aside0.mk hq
 have c1:=(blk_cell hp 1).trans rfl
 have c2:=(blk_cell hp 2).trans rfl
 have hpl:=blk_lt hp
 have HPU:=Aside0.mk (fun W (hw:Below w.heap.size w W)=>put_any base g q ⟨15,⟨#[]⟩,⟨#[]⟩,⟨#[]⟩,1,0⟩ d [] .nilFunc W (HT.out.below hw) (Nat.le_trans hb hw.size) (HQ.out.below hw) (by simpa using hlen) (.inl ⟨rfl,rfl⟩))
 clear h hp hq
 have t141:=run_assert_not Tryz.underlying141 (show 151 ≠ 141 by decide) zero141 (.pointer (some ⟨p,0,none⟩))
 have t144:=run_assert_not Tryz.underlying144 (show 151 ≠ 144 by decide) zero144 (.pointer (some ⟨p,0,none⟩))
 have t147:=run_assert_not Tryz.underlying147 (show 151 ≠ 147 by decide) zero147 (.pointer (some ⟨p,0,none⟩))
 have t149:=run_assert_not Tryz.underlying149 (show 151 ≠ 149 by decide) zero149 (.pointer (some ⟨p,0,none⟩))
 have t151:=run_assert_is Tryz.underlying151 (.pointer (some ⟨p,0,none⟩))
 go_enter Tryz.func48,Tryz.ntmps48
 go_wp2_with fail
 go_region_with (go_at_call 75;refine (HPU.out _ ?_).mono ?_;(first | exact below_drew (below_alloc (Below.refl _ _) _) | exact below_drew (below_alloc (below_alloc (Below.refl _ _) _) _));rintro e w3 ⟨rfl,hT3,hB3,hK3⟩;have HT3:=Aside0.mk hT3;have HB3:=Aside0.mk hB3;have HK3:=Aside0.mk hK3;clear hT3 hB3 hK3)
 all_goals
  go_wp2_with fail
  go_end0
  first
  | (
    have hb1:Below w.heap.size w (w.alloc (.cells #[.pointer (some ⟨g,0,none⟩)] 84)).drew:=below_drew (below_alloc (Below.refl _ _) _)
    exact ⟨rfl,HT3.out,(hb1.mono hb).trans HB3.out,(KeepX.of_below hb1).trans HK3.out⟩)
  | (
    have hb1:∀ o:Obj,Below w.heap.size w ((w.alloc (.cells #[.pointer (some ⟨g,0,none⟩)] 84)).alloc o).drew:=fun o=>below_drew (below_alloc (below_alloc (Below.refl _ _) _) _)
    exact ⟨rfl,HT3.out,((hb1 _).mono hb).trans HB3.out,(KeepX.of_below (hb1 _)).trans HK3.out⟩)
set_option maxRecDepth 8000 in
set_option maxHeartbeats 4000000 in
theorem take_no (base g p q:Nat) (k:ByteArray)  (d:List S50) (w:World) (h:Tk w base g d) (hb:base ≤ w.heap.size) (hp:w.heap[p]? = some (.cells #[.string k,ptr q,.bool false] 153 (0,0))) (hq:LocAt w q) (hlen:d.length + 1 ≤ 100000) :
  Calls Tryz.prog 48 #[.pointer (some ⟨g,0,none⟩),.iface 151 (ptr p)] w (Takes base g d (made ⟨15,⟨#[]⟩,⟨#[]⟩,⟨#[]⟩,0,0⟩ []) w):=by
 have HT:=Aside0.mk h
 have HQ:=Aside0.mk hq
 have c1:=(blk_cell hp 1).trans rfl
 have c2:=(blk_cell hp 2).trans rfl
 have hpl:=blk_lt hp
 have HPU:=Aside0.mk (fun W (hw:Below w.heap.size w W)=>put_any base g q ⟨15,⟨#[]⟩,⟨#[]⟩,⟨#[]⟩,0,0⟩ d [] .nilFunc W (HT.out.below hw) (Nat.le_trans hb hw.size) (HQ.out.below hw) (by simpa using hlen) (.inl ⟨rfl,rfl⟩))
 clear h hp hq
 have t141:=run_assert_not Tryz.underlying141 (show 151 ≠ 141 by decide) zero141 (.pointer (some ⟨p,0,none⟩))
 have t144:=run_assert_not Tryz.underlying144 (show 151 ≠ 144 by decide) zero144 (.pointer (some ⟨p,0,none⟩))
 have t147:=run_assert_not Tryz.underlying147 (show 151 ≠ 147 by decide) zero147 (.pointer (some ⟨p,0,none⟩))
 have t149:=run_assert_not Tryz.underlying149 (show 151 ≠ 149 by decide) zero149 (.pointer (some ⟨p,0,none⟩))
 have t151:=run_assert_is Tryz.underlying151 (.pointer (some ⟨p,0,none⟩))
 go_enter Tryz.func48,Tryz.ntmps48
 go_wp2_with fail
 go_region_with (go_at_call 75;refine (HPU.out _ ?_).mono ?_;(first | exact below_drew (below_alloc (Below.refl _ _) _) | exact below_drew (below_alloc (below_alloc (Below.refl _ _) _) _));rintro e w3 ⟨rfl,hT3,hB3,hK3⟩;have HT3:=Aside0.mk hT3;have HB3:=Aside0.mk hB3;have HK3:=Aside0.mk hK3;clear hT3 hB3 hK3)
 all_goals
  go_wp2_with fail
  go_end0
  first
  | (
    have hb1:Below w.heap.size w (w.alloc (.cells #[.pointer (some ⟨g,0,none⟩)] 84)).drew:=below_drew (below_alloc (Below.refl _ _) _)
    exact ⟨rfl,HT3.out,(hb1.mono hb).trans HB3.out,(KeepX.of_below hb1).trans HK3.out⟩)
  | (
    have hb1:∀ o:Obj,Below w.heap.size w ((w.alloc (.cells #[.pointer (some ⟨g,0,none⟩)] 84)).alloc o).drew:=fun o=>below_drew (below_alloc (below_alloc (Below.refl _ _) _) _)
    exact ⟨rfl,HT3.out,((hb1 _).mono hb).trans HB3.out,(KeepX.of_below (hb1 _)).trans HK3.out⟩)
set_option maxRecDepth 8000 in
set_option maxHeartbeats 4000000 in
theorem take_enum (base g p q:Nat) (k:ByteArray) (s:ByteArray) (d:List S50) (w:World) (h:Tk w base g d) (hb:base ≤ w.heap.size) (hp:w.heap[p]? = some (.cells #[.string k,ptr q,.string s] 155 (0,0))) (hq:LocAt w q) (hlen:d.length + 1 ≤ 100000) :
  Calls Tryz.prog 48 #[.pointer (some ⟨g,0,none⟩),.iface 154 (ptr p)] w (Takes base g d (made ⟨16,s,⟨#[]⟩,⟨#[]⟩,0,0⟩ []) w):=by
 have HT:=Aside0.mk h
 have HQ:=Aside0.mk hq
 have c1:=(blk_cell hp 1).trans rfl
 have c2:=(blk_cell hp 2).trans rfl
 have hpl:=blk_lt hp
 have HPU:=Aside0.mk (fun W (hw:Below w.heap.size w W)=>put_any base g q ⟨16,s,⟨#[]⟩,⟨#[]⟩,0,0⟩ d [] .nilFunc W (HT.out.below hw) (Nat.le_trans hb hw.size) (HQ.out.below hw) (by simpa using hlen) (.inl ⟨rfl,rfl⟩))
 clear h hp hq
 have t141:=run_assert_not Tryz.underlying141 (show 154 ≠ 141 by decide) zero141 (.pointer (some ⟨p,0,none⟩))
 have t144:=run_assert_not Tryz.underlying144 (show 154 ≠ 144 by decide) zero144 (.pointer (some ⟨p,0,none⟩))
 have t147:=run_assert_not Tryz.underlying147 (show 154 ≠ 147 by decide) zero147 (.pointer (some ⟨p,0,none⟩))
 have t149:=run_assert_not Tryz.underlying149 (show 154 ≠ 149 by decide) zero149 (.pointer (some ⟨p,0,none⟩))
 have t151:=run_assert_not Tryz.underlying151 (show 154 ≠ 151 by decide) zero151 (.pointer (some ⟨p,0,none⟩))
 have t154:=run_assert_is Tryz.underlying154 (.pointer (some ⟨p,0,none⟩))
 go_enter Tryz.func48,Tryz.ntmps48
 go_wp2_with fail
 go_region_with (go_at_call 75;refine (HPU.out _ ?_).mono ?_;(first | exact below_drew (below_alloc (Below.refl _ _) _) | exact below_drew (below_alloc (below_alloc (Below.refl _ _) _) _));rintro e w3 ⟨rfl,hT3,hB3,hK3⟩;have HT3:=Aside0.mk hT3;have HB3:=Aside0.mk hB3;have HK3:=Aside0.mk hK3;clear hT3 hB3 hK3)
 all_goals
  go_wp2_with fail
  go_end0
  first
  | (
    have hb1:Below w.heap.size w (w.alloc (.cells #[.pointer (some ⟨g,0,none⟩)] 84)).drew:=below_drew (below_alloc (Below.refl _ _) _)
    exact ⟨rfl,HT3.out,(hb1.mono hb).trans HB3.out,(KeepX.of_below hb1).trans HK3.out⟩)
  | (
    have hb1:∀ o:Obj,Below w.heap.size w ((w.alloc (.cells #[.pointer (some ⟨g,0,none⟩)] 84)).alloc o).drew:=fun o=>below_drew (below_alloc (below_alloc (Below.refl _ _) _) _)
    exact ⟨rfl,HT3.out,((hb1 _).mono hb).trans HB3.out,(KeepX.of_below (hb1 _)).trans HK3.out⟩)
set_option maxRecDepth 8000 in
set_option maxHeartbeats 4000000 in
theorem take_var (base g p q x:Nat) (k n:ByteArray) (d:List S50) (w:World) (h:Tk w base g d) (hb:base ≤ w.heap.size) (hp:w.heap[p]? = some (.cells #[.string k,ptr q,ptr x] 142 (0,0))) (hq:LocAt w q) (hx:NameAt w x n) (hlen:d.length + 1 ≤ 100000) :
  Calls Tryz.prog 48 #[.pointer (some ⟨g,0,none⟩),.iface 141 (ptr p)] w (Takes base g d (made (nd 11 n) []) w):=by
 have HT:=Aside0.mk h
 have HQ:=Aside0.mk hq
 have HX:=Aside0.mk hx
 have c1:=(blk_cell hp 1).trans rfl
 have c2:=(blk_cell hp 2).trans rfl
 have hpl:=blk_lt hp
 have HON:=Aside0.mk (fun W (hw:Below w.heap.size w W)=>ntext_any x n W (HX.out.below hw))
 have HPU:=Aside0.mk (fun W (hw:Below w.heap.size w W)=>put_any base g q ⟨11,n,⟨#[]⟩,⟨#[]⟩,0,0⟩ d [] .nilFunc W (HT.out.below hw) (Nat.le_trans hb hw.size) (HQ.out.below hw) (by simpa using hlen) (.inl ⟨rfl,rfl⟩))
 clear h hp hq hx
 have t141:=run_assert_is Tryz.underlying141 (.pointer (some ⟨p,0,none⟩))
 go_enter Tryz.func48,Tryz.ntmps48
 go_wp2_with fail
 go_region_with (first | (go_at_call 84;refine (HON.out _ ?_).mono ?_;(first | exact below_drew (below_alloc (Below.refl _ _) _));rintro e w2 ⟨rfl,rfl⟩) | (go_at_call 75;refine (HPU.out _ ?_).mono ?_;(first | exact below_drew (below_alloc (Below.refl _ _) _));rintro e w3 ⟨rfl,hT3,hB3,hK3⟩;have HT3:=Aside0.mk hT3;have HB3:=Aside0.mk hB3;have HK3:=Aside0.mk hK3;clear hT3 hB3 hK3))
 all_goals
  go_wp2_with fail
  go_end0
  have hb1:Below w.heap.size w (w.alloc (.cells #[.pointer (some ⟨g,0,none⟩)] 84)).drew:=below_drew (below_alloc (Below.refl _ _) _)
  exact ⟨rfl,HT3.out,(hb1.mono hb).trans HB3.out,(KeepX.of_below hb1).trans HK3.out⟩
end Go.Proofs.YtbobbognjmofdaaGreatDoor.Lex
end
