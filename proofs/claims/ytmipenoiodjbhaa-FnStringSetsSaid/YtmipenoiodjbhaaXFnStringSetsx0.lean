/- A text of this session: the functions of the law FnStringSets, by a program that calls the kit's print and lays this session's own contracts of single functions beside. -/
import Derived.Test.YtmipenoiodjbhaaProg
import Derived.Below
import Derived.Deep.Draws
import Derived.Deep.AppendLies
import Derived.Maps.AppendAt
import Derived.OwnWalk
import Derived.Laws.BytesArg
import Derived.Laws.MakeOwn
import Derived.Laws.OwnMore
import Derived.Deep.OwnRows
import Derived.Tactics
import Derived.Lib.ConvBytes
import Derived.Laws.Slices
import Derived.WalkKit
import Derived.KernelRfl
import Derived.RowKit3
import Derived.Deep.LoopGhost
import Derived.Deep.QuietTactic
import Derived.BigQuiet
import Derived.WideLaws
import Derived.Deep.DeepCutAuto
import Derived.Deep.CutBlock
import Derived.Deep.RegionHeld3
import Derived.Laws.Rows
import Derived.Lib.AppendStr
import Derived.ArgAppend
import Derived.Laws.IdiomCopy
import Derived.OrdersHeld
import Derived.Laws.BitsLemmas
import Derived.RowKit
import Derived.RegionTactic
import Derived.ChangeAlike
import Derived.Test.YtmipenoiodjbhaaWWords
import Derived.Test.YtmipenoiodjbhaaWLast
import Derived.Test.YtmipenoiodjbhaaWTab
import Derived.Test.YtmipenoiodjbhaaWFour
import Derived.Test.YtmipenoiodjbhaaWQPut
import Derived.Test.YtmipenoiodjbhaaWApart
import Derived.Test.YtmipenoiodjbhaaWArr
import Derived.Test.YtmipenoiodjbhaaWZeros
import Derived.Test.YtmipenoiodjbhaaWFoot
import Derived.Test.YtmipenoiodjbhaaWKept
import Derived.Test.YtmipenoiodjbhaaWShare
import Derived.Test.YtmipenoiodjbhaaWN
import Derived.Test.YtmipenoiodjbhaaWFootNe
import Derived.Test.YtmipenoiodjbhaaWAt
import Derived.Test.YtmipenoiodjbhaaWEqStruct
import Derived.Test.YtmipenoiodjbhaaWRepsOne
import Derived.Test.YtmipenoiodjbhaaWInv
import Derived.Test.YtmipenoiodjbhaaWInvWords
import Derived.Test.YtmipenoiodjbhaaWGuard
import Derived.Test.YtmipenoiodjbhaaWNEv
import Derived.Test.YtmipenoiodjbhaaWMore
namespace Go.Proofs.Ytmipenoiodjbhaa.XFnStringSets
open Go.RowKit Go.Proofs.YtmipenoiodjbhaaW.PrintWords Go.Proofs.YtmipenoiodjbhaaW.PrintLast Go.Proofs.YtmipenoiodjbhaaW.PrintMore
attribute [local go_sem] max2_int min2_int max_two min_two max_three min_three max_four min_four   -- for this text's walks alone
set_option linter.unusedVariables false
set_option linter.unusedSimpArgs false



def errW : Option Int → Value
  | none => .nilIface
  | some c => .iface 0 (.int .i64 c)
theorem errW_none : errW none = .nilIface := rfl
theorem errW_some (c : Int) : errW (some c) = .iface 0 (.int .i64 c) := rfl

theorem info3 : (Try.prog.info? 3).map (fun i => (i.zero, i.size, i.bytes)) = some (some (.int .i64 0), 1, 8) := by kernel_rfl
theorem info9 : (Try.prog.info? 9).map (fun i => (i.zero, i.size, i.bytes)) = some (some (.string ⟨#[]⟩), 1, 16) := by kernel_rfl
-- the values' own types

end Go.Proofs.Ytmipenoiodjbhaa.XFnStringSets
