-- printed by a program of this session: the print, turned for a few more operations
import Derived.Test.YtcficphbjicneaaProg
import Derived.Below
import Derived.Deep.Draws
import Derived.Deep.AppendLies
import Derived.Maps.AppendAt
import Derived.OwnWalk
import Derived.Laws.BytesArg
import Derived.Laws.MakeOwn
import Derived.Laws.OwnMore
import Derived.Deep.OwnRows
import Derived.Tactics
import Derived.Lib.ConvBytes
import Derived.Laws.Slices
import Derived.WalkKit
import Derived.KernelRfl
import Derived.RowKit3
import Derived.Deep.LoopGhost
import Derived.Deep.QuietTactic
import Derived.BigQuiet
import Derived.WideLaws
import Derived.Deep.DeepCutAuto
import Derived.Deep.CutBlock
import Derived.Deep.RegionHeld3
import Derived.Laws.Rows
import Derived.Lib.AppendStr
import Derived.ArgAppend
import Derived.Laws.IdiomCopy
import Derived.OrdersHeld
import Derived.Laws.BitsLemmas
import Derived.RowKit
import Derived.Test.YtcficphbjicneaaWWords
import Derived.Test.YtcficphbjicneaaWLast
import Derived.Test.YtcficphbjicneaaWTab
import Derived.Test.YtcficphbjicneaaWFour
import Derived.Test.YtcficphbjicneaaWQPut
import Derived.Test.YtcficphbjicneaaWApart
import Derived.Test.YtcficphbjicneaaWArr
import Derived.Test.YtcficphbjicneaaWZeros
import Derived.Test.YtcficphbjicneaaWFoot
import Derived.Test.YtcficphbjicneaaWKept
import Derived.Test.YtcficphbjicneaaWShare
import Derived.Test.YtcficphbjicneaaWN
import Derived.Test.YtcficphbjicneaaWFootNe
import Derived.Test.YtcficphbjicneaaWAt
import Derived.Test.YtcficphbjicneaaWEqStruct
import Derived.Test.YtcficphbjicneaaWRepsOne
import Derived.Test.YtcficphbjicneaaWInv
import Derived.Test.YtcficphbjicneaaWInvWords
import Derived.Test.YtcficphbjicneaaWGuard
import Derived.Test.YtcficphbjicneaaWNEv
import Derived.Test.YtcficphbjicneaaWMore
namespace Go.Proofs.Ytcficphbjicneaa.PFnSeqIndentStyle
open Go.RowKit Go.Proofs.YtcficphbjicneaaW.PrintWords Go.Proofs.YtcficphbjicneaaW.PrintLast Go.Proofs.YtcficphbjicneaaW.PrintMore
attribute [local go_sem] max2_int min2_int max_two min_two max_three min_three max_four min_four   -- for this text's walks alone
set_option linter.unusedVariables false
set_option linter.unusedSimpArgs false



def errW : Option Int → Value
  | none => .nilIface
  | some c => .iface 0 (.int .i64 c)
theorem errW_none : errW none = .nilIface := rfl
theorem errW_some (c : Int) : errW (some c) = .iface 0 (.int .i64 c) := rfl

theorem info9 : (Try.prog.info? 9).map (fun i => (i.zero, i.size, i.bytes)) = some (some (.string ⟨#[]⟩), 1, 16) := by kernel_rfl
-- the values' own types

end Go.Proofs.Ytcficphbjicneaa.PFnSeqIndentStyle
