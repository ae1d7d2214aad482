/- A text of this session: the functions of the law FnFieldPiece, by a program that calls the kit's print and lays this session's own contracts of single functions beside. -/
import Derived.Test.YtehgokciafpnbaaProg
import Derived.Below
import Derived.Deep.Draws
import Derived.Deep.AppendLies
import Derived.Maps.AppendAt
import Derived.OwnWalk
import Derived.Laws.BytesArg
import Derived.Laws.MakeOwn
import Derived.Laws.OwnMore
import Derived.Deep.OwnRows
import Derived.Tactics
import Derived.Lib.ConvBytes
import Derived.Laws.Slices
import Derived.WalkKit
import Derived.KernelRfl
import Derived.RowKit3
import Derived.Deep.LoopGhost
import Derived.Deep.QuietTactic
import Derived.BigQuiet
import Derived.WideLaws
import Derived.Deep.DeepCutAuto
import Derived.Deep.CutBlock
import Derived.Deep.RegionHeld3
import Derived.Laws.Rows
import Derived.Lib.AppendStr
import Derived.ArgAppend
import Derived.Laws.IdiomCopy
import Derived.OrdersHeld
import Derived.Laws.BitsLemmas
import Derived.RowKit
import Derived.RegionTactic
import Derived.ChangeAlike
import Derived.Laws.RangeAny
import Derived.LoopTactic
import Derived.Extends
import Derived.Outline
import Derived.Lib.OthersKept
import Derived.Lib.Strings
import Derived.Lib.IndexBytes
import Derived.Test.YtehgokciafpnbaaWWords
import Derived.Test.YtehgokciafpnbaaWLast
import Derived.Test.YtehgokciafpnbaaWTab
import Derived.Test.YtehgokciafpnbaaWFour
import Derived.Test.YtehgokciafpnbaaWQPut
import Derived.Test.YtehgokciafpnbaaWApart
import Derived.Test.YtehgokciafpnbaaWArr
import Derived.Test.YtehgokciafpnbaaWZeros
import Derived.Test.YtehgokciafpnbaaWFoot
import Derived.Test.YtehgokciafpnbaaWKept
import Derived.Test.YtehgokciafpnbaaWShare
import Derived.Test.YtehgokciafpnbaaWN
import Derived.Test.YtehgokciafpnbaaWFootNe
import Derived.Test.YtehgokciafpnbaaWAt
import Derived.Test.YtehgokciafpnbaaWEqStruct
import Derived.Test.YtehgokciafpnbaaWRepsOne
import Derived.Test.YtehgokciafpnbaaWInv
import Derived.Test.YtehgokciafpnbaaWInvWords
import Derived.Test.YtehgokciafpnbaaWGuard
import Derived.Test.YtehgokciafpnbaaWNEv
import Derived.Test.YtehgokciafpnbaaWMore
namespace Go.Proofs.Ytehgokciafpnbaa.XFnFieldPiece
open Go.RowKit Go.Proofs.YtehgokciafpnbaaW.PrintWords Go.Proofs.YtehgokciafpnbaaW.PrintLast Go.Proofs.YtehgokciafpnbaaW.PrintMore
attribute [local go_sem] max2_int min2_int max_two min_two max_three min_three max_four min_four   -- for this text's walks alone
set_option linter.unusedVariables false
set_option linter.unusedSimpArgs false



def errW : Option Int → Value
  | none => .nilIface
  | some c => .iface 0 (.int .i64 c)
theorem errW_none : errW none = .nilIface := rfl
theorem errW_some (c : Int) : errW (some c) = .iface 0 (.int .i64 c) := rfl

-- the values' own types

end Go.Proofs.Ytehgokciafpnbaa.XFnFieldPiece
