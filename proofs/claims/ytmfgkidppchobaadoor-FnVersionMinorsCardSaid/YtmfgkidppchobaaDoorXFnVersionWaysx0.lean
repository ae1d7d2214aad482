/- A text of this session: the functions of the law FnVersionWays, by a program that calls the kit's print and lays this session's own contracts of single functions beside. -/
import Derived.Test.YtmfgkidppchobaaDoorProg
import Derived.Below
import Derived.Deep.Draws
import Derived.Deep.AppendLies
import Derived.Maps.AppendAt
import Derived.OwnWalk
import Derived.Laws.BytesArg
import Derived.Laws.MakeOwn
import Derived.Laws.OwnMore
import Derived.Deep.OwnRows
import Derived.Tactics
import Derived.Lib.ConvBytes
import Derived.Laws.Slices
import Derived.WalkKit
import Derived.KernelRfl
import Derived.RowKit3
import Derived.Deep.LoopGhost
import Derived.Deep.QuietTactic
import Derived.BigQuiet
import Derived.WideLaws
import Derived.Deep.DeepCutAuto
import Derived.Deep.CutBlock
import Derived.Deep.RegionHeld3
import Derived.Laws.Rows
import Derived.Lib.AppendStr
import Derived.ArgAppend
import Derived.Laws.IdiomCopy
import Derived.OrdersHeld
import Derived.Laws.BitsLemmas
import Derived.RowKit
import Derived.RegionTactic
import Derived.ChangeAlike
import Derived.LoopTactic
import Derived.Outline
import Derived.Test.YtmfgkidppchobaaDoorNum
import Derived.Test.YtmfgkidppchobaaDoorVars
import Derived.Test.YtmfgkidppchobaaDoorShelf
import Derived.Laws.Cover1
import Derived.Test.YtmfgkidppchobaaDoorWWords
import Derived.Test.YtmfgkidppchobaaDoorWLast
import Derived.Test.YtmfgkidppchobaaDoorWTab
import Derived.Test.YtmfgkidppchobaaDoorWFour
import Derived.Test.YtmfgkidppchobaaDoorWQPut
import Derived.Test.YtmfgkidppchobaaDoorWApart
import Derived.Test.YtmfgkidppchobaaDoorWArr
import Derived.Test.YtmfgkidppchobaaDoorWZeros
import Derived.Test.YtmfgkidppchobaaDoorWFoot
import Derived.Test.YtmfgkidppchobaaDoorWKept
import Derived.Test.YtmfgkidppchobaaDoorWShare
import Derived.Test.YtmfgkidppchobaaDoorWN
import Derived.Test.YtmfgkidppchobaaDoorWFootNe
import Derived.Test.YtmfgkidppchobaaDoorWAt
import Derived.Test.YtmfgkidppchobaaDoorWEqStruct
import Derived.Test.YtmfgkidppchobaaDoorWRepsOne
import Derived.Test.YtmfgkidppchobaaDoorWInv
import Derived.Test.YtmfgkidppchobaaDoorWInvWords
import Derived.Test.YtmfgkidppchobaaDoorWGuard
import Derived.Test.YtmfgkidppchobaaDoorWNEv
import Derived.Test.YtmfgkidppchobaaDoorWMore
namespace Go.Proofs.YtmfgkidppchobaaDoor.XFnVersionWays
open Go.RowKit Go.Proofs.YtmfgkidppchobaaDoorW.PrintWords Go.Proofs.YtmfgkidppchobaaDoorW.PrintLast Go.Proofs.YtmfgkidppchobaaDoorW.PrintMore
attribute [local go_sem] max2_int min2_int max_two min_two max_three min_three max_four min_four
set_option linter.unusedVariables false
set_option linter.unusedSimpArgs false
def errW : Option Int → Value
 | none => .nilIface
 | some c => .iface 0 (.int .i64 c)
theorem errW_none : errW none = .nilIface := rfl
theorem errW_some (c : Int) : errW (some c) = .iface 0 (.int .i64 c) := rfl
theorem info9 : (Tryd.prog.info? 9).map (fun i => (i.zero, i.size, i.bytes)) = some (some (.string ⟨#[]⟩), 1, 16) := by kernel_rfl
end Go.Proofs.YtmfgkidppchobaaDoor.XFnVersionWays

