/- A text of this session: the functions of the law FnIntStrBytes, by a program that calls the kit's print and lays this session's own contracts of single functions beside. -/
import Derived.Test.YtmkpkpkcoieeiabDoorProg
import Derived.Below
import Derived.Deep.Draws
import Derived.Deep.AppendLies
import Derived.Maps.AppendAt
import Derived.OwnWalk
import Derived.Laws.BytesArg
import Derived.Laws.MakeOwn
import Derived.Laws.OwnMore
import Derived.Deep.OwnRows
import Derived.Tactics
import Derived.Lib.ConvBytes
import Derived.Laws.Slices
import Derived.WalkKit
import Derived.KernelRfl
import Derived.RowKit3
import Derived.Deep.LoopGhost
import Derived.Deep.QuietTactic
import Derived.BigQuiet
import Derived.WideLaws
import Derived.Deep.DeepCutAuto
import Derived.Deep.CutBlock
import Derived.Deep.RegionHeld3
import Derived.Laws.Rows
import Derived.Lib.AppendStr
import Derived.ArgAppend
import Derived.Laws.IdiomCopy
import Derived.OrdersHeld
import Derived.Laws.BitsLemmas
import Derived.RowKit
import Derived.RegionTactic
import Derived.ChangeAlike
import Derived.LoopTactic
import Derived.Outline
import Derived.Test.YtmkpkpkcoieeiabDoorShelfI
import Derived.Test.YtmkpkpkcoieeiabDoorWWords
import Derived.Test.YtmkpkpkcoieeiabDoorWLast
import Derived.Test.YtmkpkpkcoieeiabDoorWTab
import Derived.Test.YtmkpkpkcoieeiabDoorWFour
import Derived.Test.YtmkpkpkcoieeiabDoorWQPut
import Derived.Test.YtmkpkpkcoieeiabDoorWApart
import Derived.Test.YtmkpkpkcoieeiabDoorWArr
import Derived.Test.YtmkpkpkcoieeiabDoorWZeros
import Derived.Test.YtmkpkpkcoieeiabDoorWFoot
import Derived.Test.YtmkpkpkcoieeiabDoorWKept
import Derived.Test.YtmkpkpkcoieeiabDoorWShare
import Derived.Test.YtmkpkpkcoieeiabDoorWN
import Derived.Test.YtmkpkpkcoieeiabDoorWFootNe
import Derived.Test.YtmkpkpkcoieeiabDoorWAt
import Derived.Test.YtmkpkpkcoieeiabDoorWEqStruct
import Derived.Test.YtmkpkpkcoieeiabDoorWRepsOne
import Derived.Test.YtmkpkpkcoieeiabDoorWInv
import Derived.Test.YtmkpkpkcoieeiabDoorWInvWords
import Derived.Test.YtmkpkpkcoieeiabDoorWGuard
import Derived.Test.YtmkpkpkcoieeiabDoorWNEv
import Derived.Test.YtmkpkpkcoieeiabDoorWMore
namespace Go.Proofs.YtmkpkpkcoieeiabDoor.XIs
open Go.RowKit Go.Proofs.YtmkpkpkcoieeiabDoorW.PrintWords Go.Proofs.YtmkpkpkcoieeiabDoorW.PrintLast Go.Proofs.YtmkpkpkcoieeiabDoorW.PrintMore
attribute [local go_sem] max2_int min2_int max_two min_two max_three min_three max_four min_four   -- for this text's walks alone
set_option linter.unusedVariables false
set_option linter.unusedSimpArgs false



def errW : Option Int → Value
  | none => .nilIface
  | some c => .iface 0 (.int .i64 c)
theorem errW_none : errW none = .nilIface := rfl
theorem errW_some (c : Int) : errW (some c) = .iface 0 (.int .i64 c) := rfl

theorem info5 : (Tryd.prog.info? 5).map (fun i => (i.zero, i.size, i.bytes)) = some (some (.int .u8 0), 1, 1) := by kernel_rfl
-- the values' own types

end Go.Proofs.YtmkpkpkcoieeiabDoor.XIs
