/- A text of this session: the functions of the law FnArgBoth, by a program that calls the kit's print and lays this session's own contracts of single functions beside. -/
import Derived.Test.YtehgokciafpnbabProg
import Derived.Below
import Derived.Deep.Draws
import Derived.Deep.AppendLies
import Derived.Maps.AppendAt
import Derived.OwnWalk
import Derived.Laws.BytesArg
import Derived.Laws.MakeOwn
import Derived.Laws.OwnMore
import Derived.Deep.OwnRows
import Derived.Tactics
import Derived.Lib.ConvBytes
import Derived.Laws.Slices
import Derived.WalkKit
import Derived.KernelRfl
import Derived.RowKit3
import Derived.Deep.LoopGhost
import Derived.Deep.QuietTactic
import Derived.BigQuiet
import Derived.WideLaws
import Derived.Deep.DeepCutAuto
import Derived.Deep.CutBlock
import Derived.Deep.RegionHeld3
import Derived.Laws.Rows
import Derived.Lib.AppendStr
import Derived.ArgAppend
import Derived.Laws.IdiomCopy
import Derived.OrdersHeld
import Derived.Laws.BitsLemmas
import Derived.RowKit
import Derived.RegionTactic
import Derived.ChangeAlike
import Derived.Test.YtehgokciafpnbabWWords
import Derived.Test.YtehgokciafpnbabWLast
import Derived.Test.YtehgokciafpnbabWTab
import Derived.Test.YtehgokciafpnbabWFour
import Derived.Test.YtehgokciafpnbabWQPut
import Derived.Test.YtehgokciafpnbabWApart
import Derived.Test.YtehgokciafpnbabWArr
import Derived.Test.YtehgokciafpnbabWZeros
import Derived.Test.YtehgokciafpnbabWFoot
import Derived.Test.YtehgokciafpnbabWKept
import Derived.Test.YtehgokciafpnbabWShare
import Derived.Test.YtehgokciafpnbabWN
import Derived.Test.YtehgokciafpnbabWFootNe
import Derived.Test.YtehgokciafpnbabWAt
import Derived.Test.YtehgokciafpnbabWEqStruct
import Derived.Test.YtehgokciafpnbabWRepsOne
import Derived.Test.YtehgokciafpnbabWInv
import Derived.Test.YtehgokciafpnbabWInvWords
import Derived.Test.YtehgokciafpnbabWGuard
import Derived.Test.YtehgokciafpnbabWNEv
import Derived.Test.YtehgokciafpnbabWMore
namespace Go.Proofs.Ytehgokciafpnbab.XFnArgBoth
open Go.RowKit Go.Proofs.YtehgokciafpnbabW.PrintWords Go.Proofs.YtehgokciafpnbabW.PrintLast Go.Proofs.YtehgokciafpnbabW.PrintMore
attribute [local go_sem] max2_int min2_int max_two min_two max_three min_three max_four min_four   -- for this text's walks alone
set_option linter.unusedVariables false
set_option linter.unusedSimpArgs false



def errW : Option Int → Value
  | none => .nilIface
  | some c => .iface 0 (.int .i64 c)
theorem errW_none : errW none = .nilIface := rfl
theorem errW_some (c : Int) : errW (some c) = .iface 0 (.int .i64 c) := rfl

theorem info9 : (Try.prog.info? 9).map (fun i => (i.zero, i.size, i.bytes)) = some (some (.string ⟨#[]⟩), 1, 16) := by kernel_rfl
-- the values' own types

end Go.Proofs.Ytehgokciafpnbab.XFnArgBoth
