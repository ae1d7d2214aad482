/- A text of this session: the functions of the law FnAmountSign, by a program that calls the kit's print and lays this session's own contracts of single functions beside. -/
import Derived.Test.YtpchihkegmihiaaProg
import Derived.Below
import Derived.Deep.Draws
import Derived.Deep.AppendLies
import Derived.Maps.AppendAt
import Derived.OwnWalk
import Derived.Laws.BytesArg
import Derived.Laws.MakeOwn
import Derived.Laws.OwnMore
import Derived.Deep.OwnRows
import Derived.Tactics
import Derived.Lib.ConvBytes
import Derived.Laws.Slices
import Derived.WalkKit
import Derived.KernelRfl
import Derived.RowKit3
import Derived.Deep.LoopGhost
import Derived.Deep.QuietTactic
import Derived.BigQuiet
import Derived.WideLaws
import Derived.Deep.DeepCutAuto
import Derived.Deep.CutBlock
import Derived.Deep.RegionHeld3
import Derived.Laws.Rows
import Derived.Lib.AppendStr
import Derived.ArgAppend
import Derived.Laws.IdiomCopy
import Derived.OrdersHeld
import Derived.Laws.BitsLemmas
import Derived.RowKit
import Derived.Test.YtpchihkegmihiaaWWords
import Derived.Test.YtpchihkegmihiaaWLast
import Derived.Test.YtpchihkegmihiaaWTab
import Derived.Test.YtpchihkegmihiaaWFour
import Derived.Test.YtpchihkegmihiaaWQPut
import Derived.Test.YtpchihkegmihiaaWApart
import Derived.Test.YtpchihkegmihiaaWArr
import Derived.Test.YtpchihkegmihiaaWZeros
import Derived.Test.YtpchihkegmihiaaWFoot
import Derived.Test.YtpchihkegmihiaaWKept
import Derived.Test.YtpchihkegmihiaaWShare
import Derived.Test.YtpchihkegmihiaaWN
import Derived.Test.YtpchihkegmihiaaWFootNe
import Derived.Test.YtpchihkegmihiaaWAt
import Derived.Test.YtpchihkegmihiaaWEqStruct
import Derived.Test.YtpchihkegmihiaaWRepsOne
import Derived.Test.YtpchihkegmihiaaWInv
import Derived.Test.YtpchihkegmihiaaWInvWords
import Derived.Test.YtpchihkegmihiaaWGuard
import Derived.Test.YtpchihkegmihiaaWNEv
import Derived.Test.YtpchihkegmihiaaWMore
namespace Go.Proofs.Ytpchihkegmihiaa.XFnAmountSign
open Go.RowKit Go.Proofs.YtpchihkegmihiaaW.PrintWords Go.Proofs.YtpchihkegmihiaaW.PrintLast Go.Proofs.YtpchihkegmihiaaW.PrintMore
attribute [local go_sem] max2_int min2_int max_two min_two max_three min_three max_four min_four   -- for this text's walks alone
set_option linter.unusedVariables false
set_option linter.unusedSimpArgs false



def errW : Option Int → Value
  | none => .nilIface
  | some c => .iface 0 (.int .i64 c)
theorem errW_none : errW none = .nilIface := rfl
theorem errW_some (c : Int) : errW (some c) = .iface 0 (.int .i64 c) := rfl

theorem info3 : (Try.prog.info? 3).map (fun i => (i.zero, i.size, i.bytes)) = some (some (.int .i64 0), 1, 8) := by kernel_rfl
-- the values' own types

end Go.Proofs.Ytpchihkegmihiaa.XFnAmountSign
