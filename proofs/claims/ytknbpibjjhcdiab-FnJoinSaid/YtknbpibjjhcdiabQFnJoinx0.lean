-- written by a program of this session out of the translation (printext.py); not trusted: Lean checks it
import Derived.Test.YtknbpibjjhcdiabProg
import Derived.Below
import Derived.Deep.Draws
import Derived.Deep.AppendLies
import Derived.Maps.AppendAt
import Derived.OwnWalk
import Derived.Laws.BytesArg
import Derived.Laws.MakeOwn
import Derived.Laws.OwnMore
import Derived.Deep.OwnRows
import Derived.Tactics
import Derived.Lib.ConvBytes
import Derived.Laws.Slices
import Derived.WalkKit
import Derived.KernelRfl
import Derived.RowKit3
import Derived.Deep.LoopGhost
import Derived.Deep.QuietTactic
import Derived.BigQuiet
import Derived.WideLaws
import Derived.Deep.DeepCutAuto
import Derived.Deep.CutBlock
import Derived.Deep.RegionHeld3
import Derived.Laws.Rows
import Derived.Lib.AppendStr
import Derived.ArgAppend
import Derived.Laws.IdiomCopy
import Derived.OrdersHeld
import Derived.Laws.BitsLemmas
import Derived.RowKit
import Derived.Test.YtknbpibjjhcdiabJoinExt
import Derived.Test.YtknbpibjjhcdiabWWords
import Derived.Test.YtknbpibjjhcdiabWLast
import Derived.Test.YtknbpibjjhcdiabWTab
import Derived.Test.YtknbpibjjhcdiabWFour
import Derived.Test.YtknbpibjjhcdiabWQPut
import Derived.Test.YtknbpibjjhcdiabWApart
import Derived.Test.YtknbpibjjhcdiabWArr
import Derived.Test.YtknbpibjjhcdiabWZeros
import Derived.Test.YtknbpibjjhcdiabWFoot
import Derived.Test.YtknbpibjjhcdiabWKept
import Derived.Test.YtknbpibjjhcdiabWShare
import Derived.Test.YtknbpibjjhcdiabWN
import Derived.Test.YtknbpibjjhcdiabWFootNe
import Derived.Test.YtknbpibjjhcdiabWAt
import Derived.Test.YtknbpibjjhcdiabWEqStruct
import Derived.Test.YtknbpibjjhcdiabWRepsOne
import Derived.Test.YtknbpibjjhcdiabWInv
import Derived.Test.YtknbpibjjhcdiabWInvWords
import Derived.Test.YtknbpibjjhcdiabWGuard
import Derived.Test.YtknbpibjjhcdiabWNEv
import Derived.Test.YtknbpibjjhcdiabWMore
namespace Go.Proofs.Ytknbpibjjhcdiab.PFnJoin
open Go.RowKit Go.Proofs.YtknbpibjjhcdiabW.PrintWords Go.Proofs.YtknbpibjjhcdiabW.PrintLast Go.Proofs.YtknbpibjjhcdiabW.PrintMore
attribute [local go_sem] max2_int min2_int max_two min_two max_three min_three max_four min_four   -- for this text's walks alone
set_option linter.unusedVariables false
set_option linter.unusedSimpArgs false



def errW : Option Int → Value
  | none => .nilIface
  | some c => .iface 0 (.int .i64 c)
theorem errW_none : errW none = .nilIface := rfl
theorem errW_some (c : Int) : errW (some c) = .iface 0 (.int .i64 c) := rfl

theorem info9 : (Try.prog.info? 9).map (fun i => (i.zero, i.size, i.bytes)) = some (some (.string ⟨#[]⟩), 1, 16) := by kernel_rfl
-- the values' own types

end Go.Proofs.Ytknbpibjjhcdiab.PFnJoin
