/- A text of this session: the functions of the law FnResourceVersionOrder, by a program that calls the kit's print and lays this session's own contracts of single functions beside. -/
import Derived.Test.YtgmkfalnncaacaaProg
import Derived.Below
import Derived.Deep.Draws
import Derived.Deep.AppendLies
import Derived.Maps.AppendAt
import Derived.OwnWalk
import Derived.Laws.BytesArg
import Derived.Laws.MakeOwn
import Derived.Laws.OwnMore
import Derived.Deep.OwnRows
import Derived.Tactics
import Derived.Lib.ConvBytes
import Derived.Laws.Slices
import Derived.WalkKit
import Derived.KernelRfl
import Derived.RowKit3
import Derived.Deep.LoopGhost
import Derived.Deep.QuietTactic
import Derived.BigQuiet
import Derived.WideLaws
import Derived.Deep.DeepCutAuto
import Derived.Deep.CutBlock
import Derived.Deep.RegionHeld3
import Derived.Laws.Rows
import Derived.Lib.AppendStr
import Derived.ArgAppend
import Derived.Laws.IdiomCopy
import Derived.OrdersHeld
import Derived.Laws.BitsLemmas
import Derived.RowKit
import Derived.RegionTactic
import Derived.ChangeAlike
import Derived.Test.YtgmkfalnncaacaaShelf
import Derived.Laws.RangeAny
import Derived.LoopTactic
import Derived.Extends
import Derived.Outline
import Derived.Test.YtgmkfalnncaacaaWWords
import Derived.Test.YtgmkfalnncaacaaWLast
import Derived.Test.YtgmkfalnncaacaaWTab
import Derived.Test.YtgmkfalnncaacaaWFour
import Derived.Test.YtgmkfalnncaacaaWQPut
import Derived.Test.YtgmkfalnncaacaaWApart
import Derived.Test.YtgmkfalnncaacaaWArr
import Derived.Test.YtgmkfalnncaacaaWZeros
import Derived.Test.YtgmkfalnncaacaaWFoot
import Derived.Test.YtgmkfalnncaacaaWKept
import Derived.Test.YtgmkfalnncaacaaWShare
import Derived.Test.YtgmkfalnncaacaaWN
import Derived.Test.YtgmkfalnncaacaaWFootNe
import Derived.Test.YtgmkfalnncaacaaWAt
import Derived.Test.YtgmkfalnncaacaaWEqStruct
import Derived.Test.YtgmkfalnncaacaaWRepsOne
import Derived.Test.YtgmkfalnncaacaaWInv
import Derived.Test.YtgmkfalnncaacaaWInvWords
import Derived.Test.YtgmkfalnncaacaaWGuard
import Derived.Test.YtgmkfalnncaacaaWNEv
import Derived.Test.YtgmkfalnncaacaaWMore
namespace Go.Proofs.Ytgmkfalnncaacaa.XFnResourceVersionOrder
open Go.RowKit Go.Proofs.YtgmkfalnncaacaaW.PrintWords Go.Proofs.YtgmkfalnncaacaaW.PrintLast Go.Proofs.YtgmkfalnncaacaaW.PrintMore
attribute [local go_sem] max2_int min2_int max_two min_two max_three min_three max_four min_four   -- for this text's walks alone
set_option linter.unusedVariables false
set_option linter.unusedSimpArgs false



def errW : Option Int → Value
  | none => .nilIface
  | some c => .iface 0 (.int .i64 c)
theorem errW_none : errW none = .nilIface := rfl
theorem errW_some (c : Int) : errW (some c) = .iface 0 (.int .i64 c) := rfl

-- the values' own types

end Go.Proofs.Ytgmkfalnncaacaa.XFnResourceVersionOrder
