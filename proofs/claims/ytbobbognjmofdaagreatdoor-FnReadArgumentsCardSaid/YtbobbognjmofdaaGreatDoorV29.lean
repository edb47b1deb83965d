import Derived.Test.YtbobbognjmofdaaGreatDoorV00
import Derived.Test.YtbobbognjmofdaaGreatDoorV28
import Derived.WalkKit
import Derived.ProofKit
import Derived.OpenShut
import Derived.ShutString
import Derived.ChangeOld
import Derived.Below
import Derived.SizedLaws
import Derived.LaidMore
import Derived.Lay
import Derived.Stop.Joined
import Derived.SevenTiedAt
section
namespace Go.Proofs.YtbobbognjmofdaaGreatDoor.fnReadArguments
open Go Go.ChangeShapes Go.WideShapes Go.ChangeAt Go.RowKit
open Go.ChangeMaps (open_string shut_string)
set_option linter.unusedVariables false
theorem own:ownKnob Tryz.prog.godebug = none:=by kernel_rfl
set_option maxRecDepth 100000 in
theorem lifted (os:Os) (started:os.Started) (H:Type) (enc:TypeId × Value → H) :
  ReturnsInHanded {} Tryz.checked os 8 .any (fun w args=>(Rows.fnReadArgumentsSpec.pre enc Tryz.prog Tryz.f8 [] false w args ∧ laidMetH Tryz.prog laid3 w) ∧ sizedMet enc Tryz.prog Tryz.f8 (OpenSpec.ofChange Rows.fnReadArgumentsSpec) false w args)
   (Rows.fnReadArgumentsSpec.post enc Tryz.prog Tryz.f8 false true false false):=by
 refine returnsInHanded_of_change_and (C:=Tryz.checked) (X:=fun w _=>laidMetH Tryz.prog laid3 w) (fun _ _ _ hh h=>h.of_heap hh) own started (by kernel_rfl) Tryz.func8
  (ChangeSpec.witness_shaped (enc:=enc) (C:=Tryz.checked) (os:=os) (X:=fun w _=>laidMetH Tryz.prog laid3 w) false (World.laidAll Tryz.prog os laid3) #[.string ByteArray.empty] 8 (World.laidAll_os _ _ _)
   (World.shaped_of_ZipB (by kernel_rfl) (by kernel_rfl)) (by kernel_rfl) (by kernel_rfl) (by kernel_rfl)
   (by rw [MakeChecks.laidMetH_plain _ _ _ (by kernel_rfl)];exact laidMet_laidAll _ (by kernel_rfl) (by kernel_rfl))) ?_
 intro W base args ds gs before hval0 hW _ _ hL _
 have hval:∀ (j:Nat) t v,Tryz.f8.params[j]? = some t → args[j]? = some v → Value.okWide Tryz.prog W .any base t v:=hval0
 have hW':=hW
 obtain ⟨p,q,hA0,hV,rfl,hfz,hnd⟩:=hW
 have hA:DataW.TrodAll enc Tryz.prog W 0 (fun _=>true) true Tryz.f8.params.toList args.toList ds p:=hA0
 rw [Tryz.params8] at hA hval
 obtain ⟨v0,vs0,d0,ds0,p0,q0,hargs,rfl,rfl,h0,r0⟩:=trodAll_cons hA
 obtain ⟨rfl,rfl,rfl⟩:=trodAll_nil r0
 obtain rfl:args = #[v0]:=by cases args;simp_all
 obtain ⟨rfl,rfl⟩:=trodVars_none hV
 obtain ⟨a0,rfl,rfl,rfl,y0⟩:=open_string Tryz.underlying9 (hval 0 9 v0 rfl rfl) h0
 clear hA0 hval0
 refine (Lex.lawReadArguments_any a0 W (tabs_of_laid hL)).mono fun e W' ⟨he,bel⟩=>?_
 subst he
 exact ⟨_,rfl,_,_,_,[],_,[],hW',trodAll_mk1 (shut_bool Tryz.underlying4 _),(trodAll_cons_mk (shut_string Tryz.underlying9 y0) trodAll_mk0),rfl,bel.frame _,fun h=>by cases h⟩
end Go.Proofs.YtbobbognjmofdaaGreatDoor.fnReadArguments
end
