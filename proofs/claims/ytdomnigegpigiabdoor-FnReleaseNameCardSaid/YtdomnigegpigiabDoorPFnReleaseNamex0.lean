-- printed by a program of this session: the print, turned for a few more operations
import Derived.Test.YtdomnigegpigiabDoorProg
import Derived.Below
import Derived.Deep.Draws
import Derived.Deep.AppendLies
import Derived.Maps.AppendAt
import Derived.OwnWalk
import Derived.Laws.BytesArg
import Derived.Laws.MakeOwn
import Derived.Laws.OwnMore
import Derived.Deep.OwnRows
import Derived.Tactics
import Derived.Lib.ConvBytes
import Derived.Laws.Slices
import Derived.WalkKit
import Derived.KernelRfl
import Derived.RowKit3
import Derived.Deep.LoopGhost
import Derived.Deep.QuietTactic
import Derived.BigQuiet
import Derived.WideLaws
import Derived.Deep.DeepCutAuto
import Derived.Deep.CutBlock
import Derived.Deep.RegionHeld3
import Derived.Laws.Rows
import Derived.Lib.AppendStr
import Derived.ArgAppend
import Derived.Laws.IdiomCopy
import Derived.OrdersHeld
import Derived.Laws.BitsLemmas
import Derived.RowKit
import Derived.Test.YtdomnigegpigiabDoorWWords
import Derived.Test.YtdomnigegpigiabDoorWLast
import Derived.Test.YtdomnigegpigiabDoorWTab
import Derived.Test.YtdomnigegpigiabDoorWFour
import Derived.Test.YtdomnigegpigiabDoorWQPut
import Derived.Test.YtdomnigegpigiabDoorWApart
import Derived.Test.YtdomnigegpigiabDoorWArr
import Derived.Test.YtdomnigegpigiabDoorWZeros
import Derived.Test.YtdomnigegpigiabDoorWFoot
import Derived.Test.YtdomnigegpigiabDoorWKept
import Derived.Test.YtdomnigegpigiabDoorWShare
import Derived.Test.YtdomnigegpigiabDoorWN
import Derived.Test.YtdomnigegpigiabDoorWFootNe
import Derived.Test.YtdomnigegpigiabDoorWAt
import Derived.Test.YtdomnigegpigiabDoorWEqStruct
import Derived.Test.YtdomnigegpigiabDoorWRepsOne
import Derived.Test.YtdomnigegpigiabDoorWInv
import Derived.Test.YtdomnigegpigiabDoorWInvWords
import Derived.Test.YtdomnigegpigiabDoorWGuard
import Derived.Test.YtdomnigegpigiabDoorWNEv
import Derived.Test.YtdomnigegpigiabDoorWMore
namespace Go.Proofs.YtdomnigegpigiabDoor.PFnReleaseName
open Go.RowKit Go.Proofs.YtdomnigegpigiabDoorW.PrintWords Go.Proofs.YtdomnigegpigiabDoorW.PrintLast Go.Proofs.YtdomnigegpigiabDoorW.PrintMore
attribute [local go_sem] max2_int min2_int max_two min_two max_three min_three max_four min_four   -- for this text's walks alone
set_option linter.unusedVariables false
set_option linter.unusedSimpArgs false



def errW : Option Int → Value
  | none => .nilIface
  | some c => .iface 0 (.int .i64 c)
theorem errW_none : errW none = .nilIface := rfl
theorem errW_some (c : Int) : errW (some c) = .iface 0 (.int .i64 c) := rfl

-- the values' own types

end Go.Proofs.YtdomnigegpigiabDoor.PFnReleaseName
