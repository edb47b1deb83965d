-- written by a program of this session out of the translation (printext.py); not trusted: Lean checks it
import Derived.Test.YtknbpibjjhcdiacProg
import Derived.Below
import Derived.Deep.Draws
import Derived.Deep.AppendLies
import Derived.Maps.AppendAt
import Derived.OwnWalk
import Derived.Laws.BytesArg
import Derived.Laws.MakeOwn
import Derived.Laws.OwnMore
import Derived.Deep.OwnRows
import Derived.Tactics
import Derived.Lib.ConvBytes
import Derived.Laws.Slices
import Derived.WalkKit
import Derived.KernelRfl
import Derived.RowKit3
import Derived.Deep.LoopGhost
import Derived.Deep.QuietTactic
import Derived.BigQuiet
import Derived.WideLaws
import Derived.Deep.DeepCutAuto
import Derived.Deep.CutBlock
import Derived.Deep.RegionHeld3
import Derived.Laws.Rows
import Derived.Lib.AppendStr
import Derived.ArgAppend
import Derived.Laws.IdiomCopy
import Derived.OrdersHeld
import Derived.Laws.BitsLemmas
import Derived.RowKit
import Derived.Test.YtknbpibjjhcdiacJoinExt
import Derived.Test.YtknbpibjjhcdiacWWords
import Derived.Test.YtknbpibjjhcdiacWLast
import Derived.Test.YtknbpibjjhcdiacWTab
import Derived.Test.YtknbpibjjhcdiacWFour
import Derived.Test.YtknbpibjjhcdiacWQPut
import Derived.Test.YtknbpibjjhcdiacWApart
import Derived.Test.YtknbpibjjhcdiacWArr
import Derived.Test.YtknbpibjjhcdiacWZeros
import Derived.Test.YtknbpibjjhcdiacWFoot
import Derived.Test.YtknbpibjjhcdiacWKept
import Derived.Test.YtknbpibjjhcdiacWShare
import Derived.Test.YtknbpibjjhcdiacWN
import Derived.Test.YtknbpibjjhcdiacWFootNe
import Derived.Test.YtknbpibjjhcdiacWAt
import Derived.Test.YtknbpibjjhcdiacWEqStruct
import Derived.Test.YtknbpibjjhcdiacWRepsOne
import Derived.Test.YtknbpibjjhcdiacWInv
import Derived.Test.YtknbpibjjhcdiacWInvWords
import Derived.Test.YtknbpibjjhcdiacWGuard
import Derived.Test.YtknbpibjjhcdiacWNEv
import Derived.Test.YtknbpibjjhcdiacWMore
namespace Go.Proofs.Ytknbpibjjhcdiac.PFnBlock
open Go.RowKit Go.Proofs.YtknbpibjjhcdiacW.PrintWords Go.Proofs.YtknbpibjjhcdiacW.PrintLast Go.Proofs.YtknbpibjjhcdiacW.PrintMore
attribute [local go_sem] max2_int min2_int max_two min_two max_three min_three max_four min_four   -- for this text's walks alone
set_option linter.unusedVariables false
set_option linter.unusedSimpArgs false



def errW : Option Int → Value
  | none => .nilIface
  | some c => .iface 0 (.int .i64 c)
theorem errW_none : errW none = .nilIface := rfl
theorem errW_some (c : Int) : errW (some c) = .iface 0 (.int .i64 c) := rfl

theorem info5 : (Try.prog.info? 5).map (fun i => (i.zero, i.size, i.bytes)) = some (some (.int .u8 0), 1, 1) := by kernel_rfl
theorem info9 : (Try.prog.info? 9).map (fun i => (i.zero, i.size, i.bytes)) = some (some (.string ⟨#[]⟩), 1, 16) := by kernel_rfl
-- the values' own types

end Go.Proofs.Ytknbpibjjhcdiac.PFnBlock
