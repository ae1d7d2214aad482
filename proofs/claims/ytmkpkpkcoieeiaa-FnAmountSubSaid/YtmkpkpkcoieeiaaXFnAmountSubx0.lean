/- A text of this session: the functions of the law FnAmountSub, by a program that calls the kit's print and lays this session's own contracts of single functions beside. -/
import Derived.Test.YtmkpkpkcoieeiaaProg
import Derived.Below
import Derived.Deep.Draws
import Derived.Deep.AppendLies
import Derived.Maps.AppendAt
import Derived.OwnWalk
import Derived.Laws.BytesArg
import Derived.Laws.MakeOwn
import Derived.Laws.OwnMore
import Derived.Deep.OwnRows
import Derived.Tactics
import Derived.Lib.ConvBytes
import Derived.Laws.Slices
import Derived.WalkKit
import Derived.KernelRfl
import Derived.RowKit3
import Derived.Deep.LoopGhost
import Derived.Deep.QuietTactic
import Derived.BigQuiet
import Derived.WideLaws
import Derived.Deep.DeepCutAuto
import Derived.Deep.CutBlock
import Derived.Deep.RegionHeld3
import Derived.Laws.Rows
import Derived.Lib.AppendStr
import Derived.ArgAppend
import Derived.Laws.IdiomCopy
import Derived.OrdersHeld
import Derived.Laws.BitsLemmas
import Derived.RowKit
import Derived.RegionTactic
import Derived.ChangeAlike
import Derived.Test.YtmkpkpkcoieeiaaWWords
import Derived.Test.YtmkpkpkcoieeiaaWLast
import Derived.Test.YtmkpkpkcoieeiaaWTab
import Derived.Test.YtmkpkpkcoieeiaaWFour
import Derived.Test.YtmkpkpkcoieeiaaWQPut
import Derived.Test.YtmkpkpkcoieeiaaWApart
import Derived.Test.YtmkpkpkcoieeiaaWArr
import Derived.Test.YtmkpkpkcoieeiaaWZeros
import Derived.Test.YtmkpkpkcoieeiaaWFoot
import Derived.Test.YtmkpkpkcoieeiaaWKept
import Derived.Test.YtmkpkpkcoieeiaaWShare
import Derived.Test.YtmkpkpkcoieeiaaWN
import Derived.Test.YtmkpkpkcoieeiaaWFootNe
import Derived.Test.YtmkpkpkcoieeiaaWAt
import Derived.Test.YtmkpkpkcoieeiaaWEqStruct
import Derived.Test.YtmkpkpkcoieeiaaWRepsOne
import Derived.Test.YtmkpkpkcoieeiaaWInv
import Derived.Test.YtmkpkpkcoieeiaaWInvWords
import Derived.Test.YtmkpkpkcoieeiaaWGuard
import Derived.Test.YtmkpkpkcoieeiaaWNEv
import Derived.Test.YtmkpkpkcoieeiaaWMore
namespace Go.Proofs.Ytmkpkpkcoieeiaa.XFnAmountSub
open Go.RowKit Go.Proofs.YtmkpkpkcoieeiaaW.PrintWords Go.Proofs.YtmkpkpkcoieeiaaW.PrintLast Go.Proofs.YtmkpkpkcoieeiaaW.PrintMore
attribute [local go_sem] max2_int min2_int max_two min_two max_three min_three max_four min_four   -- for this text's walks alone
set_option linter.unusedVariables false
set_option linter.unusedSimpArgs false



def errW : Option Int → Value
  | none => .nilIface
  | some c => .iface 0 (.int .i64 c)
theorem errW_none : errW none = .nilIface := rfl
theorem errW_some (c : Int) : errW (some c) = .iface 0 (.int .i64 c) := rfl

theorem info3 : (Try.prog.info? 3).map (fun i => (i.zero, i.size, i.bytes)) = some (some (.int .i64 0), 1, 8) := by kernel_rfl
-- the values' own types

end Go.Proofs.Ytmkpkpkcoieeiaa.XFnAmountSub
