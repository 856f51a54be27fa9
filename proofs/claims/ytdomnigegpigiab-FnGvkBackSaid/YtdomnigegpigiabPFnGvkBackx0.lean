-- printed by a program of this session: the print, turned for a few more operations
import Derived.Test.YtdomnigegpigiabProg
import Derived.Below
import Derived.Deep.Draws
import Derived.Deep.AppendLies
import Derived.Maps.AppendAt
import Derived.OwnWalk
import Derived.Laws.BytesArg
import Derived.Laws.MakeOwn
import Derived.Laws.OwnMore
import Derived.Deep.OwnRows
import Derived.Tactics
import Derived.Lib.ConvBytes
import Derived.Laws.Slices
import Derived.WalkKit
import Derived.KernelRfl
import Derived.RowKit3
import Derived.Deep.LoopGhost
import Derived.Deep.QuietTactic
import Derived.BigQuiet
import Derived.WideLaws
import Derived.Deep.DeepCutAuto
import Derived.Deep.CutBlock
import Derived.Deep.RegionHeld3
import Derived.Laws.Rows
import Derived.Lib.AppendStr
import Derived.ArgAppend
import Derived.Laws.IdiomCopy
import Derived.OrdersHeld
import Derived.Laws.BitsLemmas
import Derived.RowKit
import Derived.Test.YtdomnigegpigiabWWords
import Derived.Test.YtdomnigegpigiabWLast
import Derived.Test.YtdomnigegpigiabWTab
import Derived.Test.YtdomnigegpigiabWFour
import Derived.Test.YtdomnigegpigiabWQPut
import Derived.Test.YtdomnigegpigiabWApart
import Derived.Test.YtdomnigegpigiabWArr
import Derived.Test.YtdomnigegpigiabWZeros
import Derived.Test.YtdomnigegpigiabWFoot
import Derived.Test.YtdomnigegpigiabWKept
import Derived.Test.YtdomnigegpigiabWShare
import Derived.Test.YtdomnigegpigiabWN
import Derived.Test.YtdomnigegpigiabWFootNe
import Derived.Test.YtdomnigegpigiabWAt
import Derived.Test.YtdomnigegpigiabWEqStruct
import Derived.Test.YtdomnigegpigiabWRepsOne
import Derived.Test.YtdomnigegpigiabWInv
import Derived.Test.YtdomnigegpigiabWInvWords
import Derived.Test.YtdomnigegpigiabWGuard
import Derived.Test.YtdomnigegpigiabWNEv
import Derived.Test.YtdomnigegpigiabWMore
namespace Go.Proofs.Ytdomnigegpigiab.PFnGvkBack
open Go.RowKit Go.Proofs.YtdomnigegpigiabW.PrintWords Go.Proofs.YtdomnigegpigiabW.PrintLast Go.Proofs.YtdomnigegpigiabW.PrintMore
attribute [local go_sem] max2_int min2_int max_two min_two max_three min_three max_four min_four   -- for this text's walks alone
set_option linter.unusedVariables false
set_option linter.unusedSimpArgs false



def errW : Option Int → Value
  | none => .nilIface
  | some c => .iface 0 (.int .i64 c)
theorem errW_none : errW none = .nilIface := rfl
theorem errW_some (c : Int) : errW (some c) = .iface 0 (.int .i64 c) := rfl

theorem info5 : (Try.prog.info? 5).map (fun i => (i.zero, i.size, i.bytes)) = some (some (.int .u8 0), 1, 1) := by kernel_rfl
theorem info9 : (Try.prog.info? 9).map (fun i => (i.zero, i.size, i.bytes)) = some (some (.string ⟨#[]⟩), 1, 16) := by kernel_rfl
-- the values' own types

end Go.Proofs.Ytdomnigegpigiab.PFnGvkBack
