/-
  No cell of these rows narrows 'for every input' (looked for: loops, veiled, ifaces, maps, wideKeys, modest, calm, conditions, laid).
  DERIVED. THE GIVEN ROWS OF THIS SEAT. 6 by the template 'for every input the law returns true; each argument reads behind the call as it read before'; 0 by the template 'total and deterministic' (their statements: YtmipenoiodjbhaaTotals.lean).
  GIVEN WITH THE SEED: the statements are not yours to turn. If you find one false, say at which input.
  Laid BY PROGRAM, IN A SANDBOX (cutbox-rows.mjs): the forced cells as the released guide's own fill.sh prints them over the translation 66819ec7263093d1… (all of the seat's roots in one cut). By AI agents, Wed Nov 11 2026. No macro, syntax, notation, axiom, sorry.
-/
import Derived.Test.YtmipenoiodjbhaaChecked
import GoSem.Claim
import GoSem.ClaimJoined
import GoSem.ClaimMapViews
import Derived.JoinedTies
import Derived.KernelRfl
namespace Go.Proofs.Ytmipenoiodjbhaa
/- THE CELL 'sum', in the pinned program and in every row, IS THE sha256 OF THE DUMP (.gsa) THAT YtmipenoiodjbhaaProg.lean LOADS. Nothing in Lean hashes anything: it is a label: what it is worth is what the hold of that sum in a sandbox is worth. -/
noncomputable def Try.pinned : Pinned := { name := "ytmipenoiodjbhaa", sum := "66819ec7263093d182baaa1f0dd7db5b7a85807ed192236f082c79c0a9b9dac9", checked := Try.checked }
namespace Rows
def none {H : Type} : Left H := { results := [], args := [] }

/-- 'laws.FnSetAlgebra': WHATEVER THE INPUT: true; the input reads as it did. -/
def fnSetAlgebraSpec : ChangeSpec := { name := "fnSetAlgebra", fn := fun _ => fun
  | [d1, d2] => { results := [.lit (.bool true)], args := [d1, d2] }
  | _ => none }
def fnSetAlgebraRow : OpenClaim := { program := "ytmipenoiodjbhaa", sum := "66819ec7263093d182baaa1f0dd7db5b7a85807ed192236f082c79c0a9b9dac9", func := "pub-stockroom/laws.FnSetAlgebra", spec := "fnSetAlgebra", recurses := true, apart := false }
def FnSetAlgebraSaid : Prop := fnSetAlgebraRow.holds Try.pinned (OpenSpec.ofChange fnSetAlgebraSpec)

/-- ITS FALSE NEIGHBOUR: 'it returns false'. Refute it at one input. -/
def fnSetAlgebraWrong : ChangeSpec := { name := "fnSetAlgebra", fn := fun _ => fun
  | [d1, d2] => { results := [.lit (.bool false)], args := [d1, d2] }
  | _ => none }
def FnSetAlgebraWrongFalsely : Prop := fnSetAlgebraRow.holds Try.pinned (OpenSpec.ofChange fnSetAlgebraWrong)

/-- 'laws.FnStringSets': WHATEVER THE INPUT: true; the input reads as it did. -/
def fnStringSetsSpec : ChangeSpec := { name := "fnStringSets", fn := fun _ => fun
  | [d1, d2, d3, d4] => { results := [.lit (.bool true)], args := [d1, d2, d3, d4] }
  | _ => none }
def fnStringSetsRow : OpenClaim := { program := "ytmipenoiodjbhaa", sum := "66819ec7263093d182baaa1f0dd7db5b7a85807ed192236f082c79c0a9b9dac9", func := "pub-stockroom/laws.FnStringSets", spec := "fnStringSets", recurses := true, apart := false }
def FnStringSetsSaid : Prop := fnStringSetsRow.holds Try.pinned (OpenSpec.ofChange fnStringSetsSpec)

/-- ITS FALSE NEIGHBOUR: 'it returns false'. Refute it at one input. -/
def fnStringSetsWrong : ChangeSpec := { name := "fnStringSets", fn := fun _ => fun
  | [d1, d2, d3, d4] => { results := [.lit (.bool false)], args := [d1, d2, d3, d4] }
  | _ => none }
def FnStringSetsWrongFalsely : Prop := fnStringSetsRow.holds Try.pinned (OpenSpec.ofChange fnStringSetsWrong)

/-- 'laws.FnStringSetSays': WHATEVER THE INPUT: true; the input reads as it did. -/
def fnStringSetSaysSpec : ChangeSpec := { name := "fnStringSetSays", fn := fun _ => fun
  | [d1, d2, d3, d4] => { results := [.lit (.bool true)], args := [d1, d2, d3, d4] }
  | _ => none }
def fnStringSetSaysRow : OpenClaim := { program := "ytmipenoiodjbhaa", sum := "66819ec7263093d182baaa1f0dd7db5b7a85807ed192236f082c79c0a9b9dac9", func := "pub-stockroom/laws.FnStringSetSays", spec := "fnStringSetSays", recurses := true, apart := false }
def FnStringSetSaysSaid : Prop := fnStringSetSaysRow.holds Try.pinned (OpenSpec.ofChange fnStringSetSaysSpec)

/-- ITS FALSE NEIGHBOUR: 'it returns false'. Refute it at one input. -/
def fnStringSetSaysWrong : ChangeSpec := { name := "fnStringSetSays", fn := fun _ => fun
  | [d1, d2, d3, d4] => { results := [.lit (.bool false)], args := [d1, d2, d3, d4] }
  | _ => none }
def FnStringSetSaysWrongFalsely : Prop := fnStringSetSaysRow.holds Try.pinned (OpenSpec.ofChange fnStringSetSaysWrong)

/-- 'laws.FnLabelSets': WHATEVER THE INPUT: true; the input reads as it did. -/
def fnLabelSetsSpec : ChangeSpec := { name := "fnLabelSets", fn := fun _ => fun
  | [d1, d2] => { results := [.lit (.bool true)], args := [d1, d2] }
  | _ => none }
def fnLabelSetsRow : OpenClaim := { program := "ytmipenoiodjbhaa", sum := "66819ec7263093d182baaa1f0dd7db5b7a85807ed192236f082c79c0a9b9dac9", func := "pub-stockroom/laws.FnLabelSets", spec := "fnLabelSets", recurses := true, apart := false }
def FnLabelSetsSaid : Prop := fnLabelSetsRow.holds Try.pinned (OpenSpec.ofChange fnLabelSetsSpec)

/-- ITS FALSE NEIGHBOUR: 'it returns false'. Refute it at one input. -/
def fnLabelSetsWrong : ChangeSpec := { name := "fnLabelSets", fn := fun _ => fun
  | [d1, d2] => { results := [.lit (.bool false)], args := [d1, d2] }
  | _ => none }
def FnLabelSetsWrongFalsely : Prop := fnLabelSetsRow.holds Try.pinned (OpenSpec.ofChange fnLabelSetsWrong)

/-- 'laws.FnOrderKeeps': WHATEVER THE INPUT: true; the input reads as it did. -/
def fnOrderKeepsSpec : ChangeSpec := { name := "fnOrderKeeps", fn := fun _ => fun
  | [d] => { results := [.lit (.bool true)], args := [d] }
  | _ => none }
def fnOrderKeepsRow : OpenClaim := { program := "ytmipenoiodjbhaa", sum := "66819ec7263093d182baaa1f0dd7db5b7a85807ed192236f082c79c0a9b9dac9", func := "pub-stockroom/laws.FnOrderKeeps", spec := "fnOrderKeeps", unfollowed := true, recurses := true, apart := false }
def FnOrderKeepsSaid : Prop := fnOrderKeepsRow.holds Try.pinned (OpenSpec.ofChange fnOrderKeepsSpec)

/-- ITS FALSE NEIGHBOUR: 'it returns false'. Refute it at one input. -/
def fnOrderKeepsWrong : ChangeSpec := { name := "fnOrderKeeps", fn := fun _ => fun
  | [d] => { results := [.lit (.bool false)], args := [d] }
  | _ => none }
def FnOrderKeepsWrongFalsely : Prop := fnOrderKeepsRow.holds Try.pinned (OpenSpec.ofChange fnOrderKeepsWrong)

/-- 'laws.FnOrderParts': WHATEVER THE INPUT: true; the input reads as it did. -/
def fnOrderPartsSpec : ChangeSpec := { name := "fnOrderParts", fn := fun _ => fun
  | [d1, d2] => { results := [.lit (.bool true)], args := [d1, d2] }
  | _ => none }
def fnOrderPartsRow : OpenClaim := { program := "ytmipenoiodjbhaa", sum := "66819ec7263093d182baaa1f0dd7db5b7a85807ed192236f082c79c0a9b9dac9", func := "pub-stockroom/laws.FnOrderParts", spec := "fnOrderParts", unfollowed := true, recurses := true, apart := false }
def FnOrderPartsSaid : Prop := fnOrderPartsRow.holds Try.pinned (OpenSpec.ofChange fnOrderPartsSpec)

/-- ITS FALSE NEIGHBOUR: 'it returns false'. Refute it at one input. -/
def fnOrderPartsWrong : ChangeSpec := { name := "fnOrderParts", fn := fun _ => fun
  | [d1, d2] => { results := [.lit (.bool false)], args := [d1, d2] }
  | _ => none }
def FnOrderPartsWrongFalsely : Prop := fnOrderPartsRow.holds Try.pinned (OpenSpec.ofChange fnOrderPartsWrong)

/- THE SECOND FORM. 'bulk': how many values and letters a reading holds, each counted each time it is reached (what is shared counts as often as it is met; a slice's spare places count too). A statement '..UptoSaid' is the law's where the arguments, and the package variables that the reading takes, are together of bulk at most 1048576: NARROWER than '..Said'. Prove '..Said' where nothing that the law and all that it calls make is longer than what came in: it says more and counts as full. Else prove '..UptoSaid'. A law counts once. -/
mutual
def uptoBulk {H : Type} : DataW H → Nat
  | .lit (.string bytes) => bytes.length + 1
  | .lit _ => 1
  | .nil => 1
  | .ptr d => uptoBulk d + 1
  | .slice elems spare => uptoBulkAll elems + uptoBulkAll spare + 1
  | .agg parts => uptoBulkAll parts + 1
  | .iface _ d => uptoBulk d + 1
  | .map entries => uptoBulkEntries entries + 1
  | .held _ => 1
def uptoBulkAll {H : Type} : List (DataW H) → Nat
  | [] => 0
  | d :: r => uptoBulk d + uptoBulkAll r
def uptoBulkEntries {H : Type} : List (Lit × DataW H) → Nat
  | [] => 0
  | x :: r => uptoBulkEntry x + uptoBulkEntries r
def uptoBulkEntry {H : Type} : Lit × DataW H → Nat
  | (.string bytes, d) => bytes.length + uptoBulk d + 1
  | (_, d) => uptoBulk d + 1
 end
def uptoSmall : (H : Type) → List (DataW H) → Bool := fun _ ds => decide (uptoBulkAll ds ≤ 1048576)
def OpenSpec.upto (s : _root_.Go.ChangeSpec) : _root_.Go.OpenSpec := { _root_.Go.OpenSpec.ofChange s with cond := some uptoSmall }

/-- 'laws.FnSetAlgebra', WHERE WHAT IT READS IS OF BULK AT MOST 1048576: true; the input reads as it did. -/
def fnSetAlgebraUptoRow : OpenClaim := { program := "ytmipenoiodjbhaa", sum := "66819ec7263093d182baaa1f0dd7db5b7a85807ed192236f082c79c0a9b9dac9", func := "pub-stockroom/laws.FnSetAlgebra", spec := "fnSetAlgebra", recurses := true, apart := false, narrowed := true }
def FnSetAlgebraUptoSaid : Prop := fnSetAlgebraUptoRow.holds Try.pinned (OpenSpec.upto fnSetAlgebraSpec)

/-- 'laws.FnStringSets', WHERE WHAT IT READS IS OF BULK AT MOST 1048576: true; the input reads as it did. -/
def fnStringSetsUptoRow : OpenClaim := { program := "ytmipenoiodjbhaa", sum := "66819ec7263093d182baaa1f0dd7db5b7a85807ed192236f082c79c0a9b9dac9", func := "pub-stockroom/laws.FnStringSets", spec := "fnStringSets", recurses := true, apart := false, narrowed := true }
def FnStringSetsUptoSaid : Prop := fnStringSetsUptoRow.holds Try.pinned (OpenSpec.upto fnStringSetsSpec)

/-- 'laws.FnStringSetSays', WHERE WHAT IT READS IS OF BULK AT MOST 1048576: true; the input reads as it did. -/
def fnStringSetSaysUptoRow : OpenClaim := { program := "ytmipenoiodjbhaa", sum := "66819ec7263093d182baaa1f0dd7db5b7a85807ed192236f082c79c0a9b9dac9", func := "pub-stockroom/laws.FnStringSetSays", spec := "fnStringSetSays", recurses := true, apart := false, narrowed := true }
def FnStringSetSaysUptoSaid : Prop := fnStringSetSaysUptoRow.holds Try.pinned (OpenSpec.upto fnStringSetSaysSpec)

/-- 'laws.FnLabelSets', WHERE WHAT IT READS IS OF BULK AT MOST 1048576: true; the input reads as it did. -/
def fnLabelSetsUptoRow : OpenClaim := { program := "ytmipenoiodjbhaa", sum := "66819ec7263093d182baaa1f0dd7db5b7a85807ed192236f082c79c0a9b9dac9", func := "pub-stockroom/laws.FnLabelSets", spec := "fnLabelSets", recurses := true, apart := false, narrowed := true }
def FnLabelSetsUptoSaid : Prop := fnLabelSetsUptoRow.holds Try.pinned (OpenSpec.upto fnLabelSetsSpec)

/-- 'laws.FnOrderKeeps', WHERE WHAT IT READS IS OF BULK AT MOST 1048576: true; the input reads as it did. -/
def fnOrderKeepsUptoRow : OpenClaim := { program := "ytmipenoiodjbhaa", sum := "66819ec7263093d182baaa1f0dd7db5b7a85807ed192236f082c79c0a9b9dac9", func := "pub-stockroom/laws.FnOrderKeeps", spec := "fnOrderKeeps", unfollowed := true, recurses := true, apart := false, narrowed := true }
def FnOrderKeepsUptoSaid : Prop := fnOrderKeepsUptoRow.holds Try.pinned (OpenSpec.upto fnOrderKeepsSpec)

/-- 'laws.FnOrderParts', WHERE WHAT IT READS IS OF BULK AT MOST 1048576: true; the input reads as it did. -/
def fnOrderPartsUptoRow : OpenClaim := { program := "ytmipenoiodjbhaa", sum := "66819ec7263093d182baaa1f0dd7db5b7a85807ed192236f082c79c0a9b9dac9", func := "pub-stockroom/laws.FnOrderParts", spec := "fnOrderParts", unfollowed := true, recurses := true, apart := false, narrowed := true }
def FnOrderPartsUptoSaid : Prop := fnOrderPartsUptoRow.holds Try.pinned (OpenSpec.upto fnOrderPartsSpec)

end Rows
end Go.Proofs.Ytmipenoiodjbhaa
