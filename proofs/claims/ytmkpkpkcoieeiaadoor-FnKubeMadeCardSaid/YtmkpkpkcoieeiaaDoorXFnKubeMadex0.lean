/- A text of this session: the functions of the law FnKubeMade, by a program that calls the kit's print and lays this session's own contracts of single functions beside. -/
import Derived.Test.YtmkpkpkcoieeiaaDoorProg
import Derived.Below
import Derived.Deep.Draws
import Derived.Deep.AppendLies
import Derived.Maps.AppendAt
import Derived.OwnWalk
import Derived.Laws.BytesArg
import Derived.Laws.MakeOwn
import Derived.Laws.OwnMore
import Derived.Deep.OwnRows
import Derived.Tactics
import Derived.Lib.ConvBytes
import Derived.Laws.Slices
import Derived.WalkKit
import Derived.KernelRfl
import Derived.RowKit3
import Derived.Deep.LoopGhost
import Derived.Deep.QuietTactic
import Derived.BigQuiet
import Derived.WideLaws
import Derived.Deep.DeepCutAuto
import Derived.Deep.CutBlock
import Derived.Deep.RegionHeld3
import Derived.Laws.Rows
import Derived.Lib.AppendStr
import Derived.ArgAppend
import Derived.Laws.IdiomCopy
import Derived.OrdersHeld
import Derived.Laws.BitsLemmas
import Derived.RowKit
import Derived.RegionTactic
import Derived.ChangeAlike
import Derived.LoopTactic
import Derived.Outline
import Derived.Test.YtmkpkpkcoieeiaaDoorNum
import Derived.Test.YtmkpkpkcoieeiaaDoorVars
import Derived.Test.YtmkpkpkcoieeiaaDoorShelf
import Derived.Laws.Cover1
import Derived.Test.YtmkpkpkcoieeiaaDoorWWords
import Derived.Test.YtmkpkpkcoieeiaaDoorWLast
import Derived.Test.YtmkpkpkcoieeiaaDoorWTab
import Derived.Test.YtmkpkpkcoieeiaaDoorWFour
import Derived.Test.YtmkpkpkcoieeiaaDoorWQPut
import Derived.Test.YtmkpkpkcoieeiaaDoorWApart
import Derived.Test.YtmkpkpkcoieeiaaDoorWArr
import Derived.Test.YtmkpkpkcoieeiaaDoorWZeros
import Derived.Test.YtmkpkpkcoieeiaaDoorWFoot
import Derived.Test.YtmkpkpkcoieeiaaDoorWKept
import Derived.Test.YtmkpkpkcoieeiaaDoorWShare
import Derived.Test.YtmkpkpkcoieeiaaDoorWN
import Derived.Test.YtmkpkpkcoieeiaaDoorWFootNe
import Derived.Test.YtmkpkpkcoieeiaaDoorWAt
import Derived.Test.YtmkpkpkcoieeiaaDoorWEqStruct
import Derived.Test.YtmkpkpkcoieeiaaDoorWRepsOne
import Derived.Test.YtmkpkpkcoieeiaaDoorWInv
import Derived.Test.YtmkpkpkcoieeiaaDoorWInvWords
import Derived.Test.YtmkpkpkcoieeiaaDoorWGuard
import Derived.Test.YtmkpkpkcoieeiaaDoorWNEv
import Derived.Test.YtmkpkpkcoieeiaaDoorWMore
namespace Go.Proofs.YtmkpkpkcoieeiaaDoor.XFnKubeMade
open Go.RowKit Go.Proofs.YtmkpkpkcoieeiaaDoorW.PrintWords Go.Proofs.YtmkpkpkcoieeiaaDoorW.PrintLast Go.Proofs.YtmkpkpkcoieeiaaDoorW.PrintMore
attribute [local go_sem] max2_int min2_int max_two min_two max_three min_three max_four min_four   -- for this text's walks alone
set_option linter.unusedVariables false
set_option linter.unusedSimpArgs false



def errW : Option Int → Value
  | none => .nilIface
  | some c => .iface 0 (.int .i64 c)
theorem errW_none : errW none = .nilIface := rfl
theorem errW_some (c : Int) : errW (some c) = .iface 0 (.int .i64 c) := rfl

theorem info5 : (Tryd.prog.info? 5).map (fun i => (i.zero, i.size, i.bytes)) = some (some (.int .u8 0), 1, 1) := by kernel_rfl
theorem info9 : (Tryd.prog.info? 9).map (fun i => (i.zero, i.size, i.bytes)) = some (some (.string ⟨#[]⟩), 1, 16) := by kernel_rfl
-- the values' own types

end Go.Proofs.YtmkpkpkcoieeiaaDoor.XFnKubeMade
