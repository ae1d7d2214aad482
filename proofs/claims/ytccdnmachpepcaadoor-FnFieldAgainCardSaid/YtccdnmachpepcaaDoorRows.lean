/-
  NARROWER THAN 'FOR EVERY INPUT', by the rows' own cells (each row's printed sentence says how): FnFieldExact: laid · FnFieldAgain: laid.
  DERIVED. THE GIVEN ROWS OF THIS SEAT. 2 by the template 'for every input the law returns true; each argument reads behind the call as it read before'; 0 by the template 'total and deterministic' (their statements: YtccdnmachpepcaaDoorTotals.lean).
  GIVEN WITH THE SEED: the statements are not yours to turn. If you find one false, say at which input.
  Laid BY PROGRAM, IN A SANDBOX (cutbox-rows.mjs): the forced cells as the released guide's own fill.sh prints them over the translation a427853af384ba41… (all of the seat's roots in one cut). By AI agents, Wed Nov 11 2026. No macro, syntax, notation, axiom, sorry.
-/
import Derived.Test.YtccdnmachpepcaaDoorChecked
import GoSem.Claim
import GoSem.ClaimJoined
import GoSem.ClaimMapViews
import Derived.JoinedTies
import Derived.KernelRfl
namespace Go.Proofs.YtccdnmachpepcaaDoor
/- THE CELL 'sum', in the pinned program and in every row, IS THE sha256 OF THE DUMP (.gsa) THAT YtccdnmachpepcaaDoorProg.lean LOADS. Nothing in Lean hashes anything: it is a label: what it is worth is what the hold of that sum in a sandbox is worth. -/
noncomputable def Tryd.pinned : Pinned := { name := "ytccdnmachpepcaadoor", sum := "a427853af384ba4113259d6ac2eaec5275d4cddd09b4f8ee693402b28845de59", checked := Tryd.checked }
namespace Rows
def none {H : Type} : Left H := { results := [], args := [] }

/- WHAT THE LISTED PACKAGE-LEVEL VARIABLES READ AS WHEN THE CALL BEGINS. Each datum BY PROGRAM (the guide's laid-datum.mjs) off the statement by which the dump's own 'gosem.cut.vars' lays the variable. In a bare row this is a premise. The card (YtccdnmachpepcaaDoorCards.lean) ties it to the program's text. -/
def laid_bytes_ErrTooLarge {H : Type} : DataW H := .iface "*errors.errorString" (.ptr (.agg [.lit (.string [98, 121, 116, 101, 115, 46, 66, 117, 102, 102, 101, 114, 58, 32, 116, 111, 111, 32, 108, 97, 114, 103, 101])]))

/-- 'laws.FnFieldExact': WHATEVER THE INPUT: true; the input reads as it did. -/
def fnFieldExactSpec : ChangeSpec := { name := "fnFieldExact", fn := fun _ => fun
  | [d1, d2, d3] => { results := [.lit (.bool true)], args := [d1, d2, d3] }
  | _ => none }
def fnFieldExactRow : OpenClaim := { program := "ytccdnmachpepcaadoor", sum := "a427853af384ba4113259d6ac2eaec5275d4cddd09b4f8ee693402b28845de59", func := "pub-stockroom/laws.FnFieldExact", spec := "fnFieldExact", unfollowed := true, recurses := true, named := ["bytes.ErrTooLarge"], apart := false, laid := [("bytes.ErrTooLarge", laid_bytes_ErrTooLarge)] }
def FnFieldExactSaid : Prop := fnFieldExactRow.holds Tryd.pinned (OpenSpec.ofChange fnFieldExactSpec)

/-- ITS FALSE NEIGHBOUR: 'it returns false'. Refute it at one input. -/
def fnFieldExactWrong : ChangeSpec := { name := "fnFieldExact", fn := fun _ => fun
  | [d1, d2, d3] => { results := [.lit (.bool false)], args := [d1, d2, d3] }
  | _ => none }
def FnFieldExactWrongFalsely : Prop := fnFieldExactRow.holds Tryd.pinned (OpenSpec.ofChange fnFieldExactWrong)

/-- 'laws.FnFieldAgain': WHATEVER THE INPUT: true; the input reads as it did. -/
def fnFieldAgainSpec : ChangeSpec := { name := "fnFieldAgain", fn := fun _ => fun
  | [d] => { results := [.lit (.bool true)], args := [d] }
  | _ => none }
def fnFieldAgainRow : OpenClaim := { program := "ytccdnmachpepcaadoor", sum := "a427853af384ba4113259d6ac2eaec5275d4cddd09b4f8ee693402b28845de59", func := "pub-stockroom/laws.FnFieldAgain", spec := "fnFieldAgain", unfollowed := true, recurses := true, named := ["bytes.ErrTooLarge"], apart := false, laid := [("bytes.ErrTooLarge", laid_bytes_ErrTooLarge)] }
def FnFieldAgainSaid : Prop := fnFieldAgainRow.holds Tryd.pinned (OpenSpec.ofChange fnFieldAgainSpec)

/-- ITS FALSE NEIGHBOUR: 'it returns false'. Refute it at one input. -/
def fnFieldAgainWrong : ChangeSpec := { name := "fnFieldAgain", fn := fun _ => fun
  | [d] => { results := [.lit (.bool false)], args := [d] }
  | _ => none }
def FnFieldAgainWrongFalsely : Prop := fnFieldAgainRow.holds Tryd.pinned (OpenSpec.ofChange fnFieldAgainWrong)

/- THE SECOND FORM. 'bulk': how many values and letters a reading holds, each counted each time it is reached (what is shared counts as often as it is met; a slice's spare places count too). A statement '..UptoSaid' is the law's where the arguments, and the package variables that the reading takes, are together of bulk at most 1048576: NARROWER than '..Said'. Prove '..Said' where nothing that the law and all that it calls make is longer than what came in: it says more and counts as full. Else prove '..UptoSaid'. A law counts once. -/
mutual
def uptoBulk {H : Type} : DataW H → Nat
  | .lit (.string bytes) => bytes.length + 1
  | .lit _ => 1
  | .nil => 1
  | .ptr d => uptoBulk d + 1
  | .slice elems spare => uptoBulkAll elems + uptoBulkAll spare + 1
  | .agg parts => uptoBulkAll parts + 1
  | .iface _ d => uptoBulk d + 1
  | .map entries => uptoBulkEntries entries + 1
  | .held _ => 1
def uptoBulkAll {H : Type} : List (DataW H) → Nat
  | [] => 0
  | d :: r => uptoBulk d + uptoBulkAll r
def uptoBulkEntries {H : Type} : List (Lit × DataW H) → Nat
  | [] => 0
  | x :: r => uptoBulkEntry x + uptoBulkEntries r
def uptoBulkEntry {H : Type} : Lit × DataW H → Nat
  | (.string bytes, d) => bytes.length + uptoBulk d + 1
  | (_, d) => uptoBulk d + 1
 end
def uptoSmall : (H : Type) → List (DataW H) → Bool := fun _ ds => decide (uptoBulkAll ds ≤ 1048576)
def OpenSpec.upto (s : _root_.Go.ChangeSpec) : _root_.Go.OpenSpec := { _root_.Go.OpenSpec.ofChange s with cond := some uptoSmall }

/-- 'laws.FnFieldExact', WHERE WHAT IT READS IS OF BULK AT MOST 1048576: true; the input reads as it did. -/
def fnFieldExactUptoRow : OpenClaim := { program := "ytccdnmachpepcaadoor", sum := "a427853af384ba4113259d6ac2eaec5275d4cddd09b4f8ee693402b28845de59", func := "pub-stockroom/laws.FnFieldExact", spec := "fnFieldExact", unfollowed := true, recurses := true, named := ["bytes.ErrTooLarge"], apart := false, laid := [("bytes.ErrTooLarge", laid_bytes_ErrTooLarge)], narrowed := true }
def FnFieldExactUptoSaid : Prop := fnFieldExactUptoRow.holds Tryd.pinned (OpenSpec.upto fnFieldExactSpec)

/-- 'laws.FnFieldAgain', WHERE WHAT IT READS IS OF BULK AT MOST 1048576: true; the input reads as it did. -/
def fnFieldAgainUptoRow : OpenClaim := { program := "ytccdnmachpepcaadoor", sum := "a427853af384ba4113259d6ac2eaec5275d4cddd09b4f8ee693402b28845de59", func := "pub-stockroom/laws.FnFieldAgain", spec := "fnFieldAgain", unfollowed := true, recurses := true, named := ["bytes.ErrTooLarge"], apart := false, laid := [("bytes.ErrTooLarge", laid_bytes_ErrTooLarge)], narrowed := true }
def FnFieldAgainUptoSaid : Prop := fnFieldAgainUptoRow.holds Tryd.pinned (OpenSpec.upto fnFieldAgainSpec)

end Rows
end Go.Proofs.YtccdnmachpepcaaDoor
