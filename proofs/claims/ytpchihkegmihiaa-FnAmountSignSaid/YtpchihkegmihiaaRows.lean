/-
  No cell of these rows narrows 'for every input' (looked for: loops, veiled, ifaces, maps, wideKeys, modest, calm, conditions, laid).
  DERIVED. THE GIVEN ROWS OF THIS SEAT. 6 by the template 'for every input the law returns true; each argument reads behind the call as it read before'; 0 by the template 'total and deterministic' (their statements: YtpchihkegmihiaaTotals.lean).
  GIVEN WITH THE SEED: the statements are not yours to turn. If you find one false, say at which input.
  Laid BY PROGRAM, IN A SANDBOX (cutbox-rows.mjs): the forced cells as the released guide's own fill.sh prints them over the translation 87d8687a41b7d82a… (all of the seat's roots in one cut). By AI agents, Wed Nov 11 2026. No macro, syntax, notation, axiom, sorry.
-/
import Derived.Test.YtpchihkegmihiaaChecked
import GoSem.Claim
import GoSem.ClaimJoined
import GoSem.ClaimMapViews
import Derived.JoinedTies
import Derived.KernelRfl
namespace Go.Proofs.Ytpchihkegmihiaa
/- THE CELL 'sum', in the pinned program and in every row, IS THE sha256 OF THE DUMP (.gsa) THAT YtpchihkegmihiaaProg.lean LOADS. Nothing in Lean hashes anything: it is a label: what it is worth is what the hold of that sum in a sandbox is worth. -/
noncomputable def Try.pinned : Pinned := { name := "ytpchihkegmihiaa", sum := "87d8687a41b7d82a3385ee5b84a2a2457fa64eae7e857255d48b3ed5d9803338", checked := Try.checked }
namespace Rows
def none {H : Type} : Left H := { results := [], args := [] }

/-- 'laws.FnScaleSums': WHATEVER THE INPUT: true; the input reads as it did. -/
def fnScaleSumsSpec : ChangeSpec := { name := "fnScaleSums", fn := fun _ => fun
  | [d1, d2] => { results := [.lit (.bool true)], args := [d1, d2] }
  | _ => none }
def fnScaleSumsRow : OpenClaim := { program := "ytpchihkegmihiaa", sum := "87d8687a41b7d82a3385ee5b84a2a2457fa64eae7e857255d48b3ed5d9803338", func := "pub-stockroom/laws.FnScaleSums", spec := "fnScaleSums", apart := false }
def FnScaleSumsSaid : Prop := fnScaleSumsRow.holds Try.pinned (OpenSpec.ofChange fnScaleSumsSpec)

/-- ITS FALSE NEIGHBOUR: 'it returns false'. Refute it at one input. -/
def fnScaleSumsWrong : ChangeSpec := { name := "fnScaleSums", fn := fun _ => fun
  | [d1, d2] => { results := [.lit (.bool false)], args := [d1, d2] }
  | _ => none }
def FnScaleSumsWrongFalsely : Prop := fnScaleSumsRow.holds Try.pinned (OpenSpec.ofChange fnScaleSumsWrong)

/-- 'laws.FnScaleDivides': WHATEVER THE INPUT: true; the input reads as it did. -/
def fnScaleDividesSpec : ChangeSpec := { name := "fnScaleDivides", fn := fun _ => fun
  | [d1, d2] => { results := [.lit (.bool true)], args := [d1, d2] }
  | _ => none }
def fnScaleDividesRow : OpenClaim := { program := "ytpchihkegmihiaa", sum := "87d8687a41b7d82a3385ee5b84a2a2457fa64eae7e857255d48b3ed5d9803338", func := "pub-stockroom/laws.FnScaleDivides", spec := "fnScaleDivides", apart := false }
def FnScaleDividesSaid : Prop := fnScaleDividesRow.holds Try.pinned (OpenSpec.ofChange fnScaleDividesSpec)

/-- ITS FALSE NEIGHBOUR: 'it returns false'. Refute it at one input. -/
def fnScaleDividesWrong : ChangeSpec := { name := "fnScaleDivides", fn := fun _ => fun
  | [d1, d2] => { results := [.lit (.bool false)], args := [d1, d2] }
  | _ => none }
def FnScaleDividesWrongFalsely : Prop := fnScaleDividesRow.holds Try.pinned (OpenSpec.ofChange fnScaleDividesWrong)

/-- 'laws.FnScaleTens': WHATEVER THE INPUT: true; the input reads as it did. -/
def fnScaleTensSpec : ChangeSpec := { name := "fnScaleTens", fn := fun _ => fun
  | [d1, d2] => { results := [.lit (.bool true)], args := [d1, d2] }
  | _ => none }
def fnScaleTensRow : OpenClaim := { program := "ytpchihkegmihiaa", sum := "87d8687a41b7d82a3385ee5b84a2a2457fa64eae7e857255d48b3ed5d9803338", func := "pub-stockroom/laws.FnScaleTens", spec := "fnScaleTens", apart := false }
def FnScaleTensSaid : Prop := fnScaleTensRow.holds Try.pinned (OpenSpec.ofChange fnScaleTensSpec)

/-- ITS FALSE NEIGHBOUR: 'it returns false'. Refute it at one input. -/
def fnScaleTensWrong : ChangeSpec := { name := "fnScaleTens", fn := fun _ => fun
  | [d1, d2] => { results := [.lit (.bool false)], args := [d1, d2] }
  | _ => none }
def FnScaleTensWrongFalsely : Prop := fnScaleTensRow.holds Try.pinned (OpenSpec.ofChange fnScaleTensWrong)

/-- 'laws.FnAmountSub': WHATEVER THE INPUT: true; the input reads as it did. -/
def fnAmountSubSpec : ChangeSpec := { name := "fnAmountSub", fn := fun _ => fun
  | [d1, d2] => { results := [.lit (.bool true)], args := [d1, d2] }
  | _ => none }
def fnAmountSubRow : OpenClaim := { program := "ytpchihkegmihiaa", sum := "87d8687a41b7d82a3385ee5b84a2a2457fa64eae7e857255d48b3ed5d9803338", func := "pub-stockroom/laws.FnAmountSub", spec := "fnAmountSub", apart := false }
def FnAmountSubSaid : Prop := fnAmountSubRow.holds Try.pinned (OpenSpec.ofChange fnAmountSubSpec)

/-- ITS FALSE NEIGHBOUR: 'it returns false'. Refute it at one input. -/
def fnAmountSubWrong : ChangeSpec := { name := "fnAmountSub", fn := fun _ => fun
  | [d1, d2] => { results := [.lit (.bool false)], args := [d1, d2] }
  | _ => none }
def FnAmountSubWrongFalsely : Prop := fnAmountSubRow.holds Try.pinned (OpenSpec.ofChange fnAmountSubWrong)

/-- 'laws.FnAmountSign': WHATEVER THE INPUT: true; the input reads as it did. -/
def fnAmountSignSpec : ChangeSpec := { name := "fnAmountSign", fn := fun _ => fun
  | [d] => { results := [.lit (.bool true)], args := [d] }
  | _ => none }
def fnAmountSignRow : OpenClaim := { program := "ytpchihkegmihiaa", sum := "87d8687a41b7d82a3385ee5b84a2a2457fa64eae7e857255d48b3ed5d9803338", func := "pub-stockroom/laws.FnAmountSign", spec := "fnAmountSign", apart := false }
def FnAmountSignSaid : Prop := fnAmountSignRow.holds Try.pinned (OpenSpec.ofChange fnAmountSignSpec)

/-- ITS FALSE NEIGHBOUR: 'it returns false'. Refute it at one input. -/
def fnAmountSignWrong : ChangeSpec := { name := "fnAmountSign", fn := fun _ => fun
  | [d] => { results := [.lit (.bool false)], args := [d] }
  | _ => none }
def FnAmountSignWrongFalsely : Prop := fnAmountSignRow.holds Try.pinned (OpenSpec.ofChange fnAmountSignWrong)

/-- 'laws.FnAmountRounds': WHATEVER THE INPUT: true; the input reads as it did. -/
def fnAmountRoundsSpec : ChangeSpec := { name := "fnAmountRounds", fn := fun _ => fun
  | [d1, d2] => { results := [.lit (.bool true)], args := [d1, d2] }
  | _ => none }
def fnAmountRoundsRow : OpenClaim := { program := "ytpchihkegmihiaa", sum := "87d8687a41b7d82a3385ee5b84a2a2457fa64eae7e857255d48b3ed5d9803338", func := "pub-stockroom/laws.FnAmountRounds", spec := "fnAmountRounds", apart := false }
def FnAmountRoundsSaid : Prop := fnAmountRoundsRow.holds Try.pinned (OpenSpec.ofChange fnAmountRoundsSpec)

/-- ITS FALSE NEIGHBOUR: 'it returns false'. Refute it at one input. -/
def fnAmountRoundsWrong : ChangeSpec := { name := "fnAmountRounds", fn := fun _ => fun
  | [d1, d2] => { results := [.lit (.bool false)], args := [d1, d2] }
  | _ => none }
def FnAmountRoundsWrongFalsely : Prop := fnAmountRoundsRow.holds Try.pinned (OpenSpec.ofChange fnAmountRoundsWrong)

/- THE SECOND FORM. 'bulk': how many values and letters a reading holds, each counted each time it is reached (what is shared counts as often as it is met; a slice's spare places count too). A statement '..UptoSaid' is the law's where the arguments, and the package variables that the reading takes, are together of bulk at most 1048576: NARROWER than '..Said'. Prove '..Said' where nothing that the law and all that it calls make is longer than what came in: it says more and counts as full. Else prove '..UptoSaid'. A law counts once. -/
mutual
def uptoBulk {H : Type} : DataW H → Nat
  | .lit (.string bytes) => bytes.length + 1
  | .lit _ => 1
  | .nil => 1
  | .ptr d => uptoBulk d + 1
  | .slice elems spare => uptoBulkAll elems + uptoBulkAll spare + 1
  | .agg parts => uptoBulkAll parts + 1
  | .iface _ d => uptoBulk d + 1
  | .map entries => uptoBulkEntries entries + 1
  | .held _ => 1
def uptoBulkAll {H : Type} : List (DataW H) → Nat
  | [] => 0
  | d :: r => uptoBulk d + uptoBulkAll r
def uptoBulkEntries {H : Type} : List (Lit × DataW H) → Nat
  | [] => 0
  | x :: r => uptoBulkEntry x + uptoBulkEntries r
def uptoBulkEntry {H : Type} : Lit × DataW H → Nat
  | (.string bytes, d) => bytes.length + uptoBulk d + 1
  | (_, d) => uptoBulk d + 1
 end
def uptoSmall : (H : Type) → List (DataW H) → Bool := fun _ ds => decide (uptoBulkAll ds ≤ 1048576)
def OpenSpec.upto (s : _root_.Go.ChangeSpec) : _root_.Go.OpenSpec := { _root_.Go.OpenSpec.ofChange s with cond := some uptoSmall }

/-- 'laws.FnScaleSums', WHERE WHAT IT READS IS OF BULK AT MOST 1048576: true; the input reads as it did. -/
def fnScaleSumsUptoRow : OpenClaim := { program := "ytpchihkegmihiaa", sum := "87d8687a41b7d82a3385ee5b84a2a2457fa64eae7e857255d48b3ed5d9803338", func := "pub-stockroom/laws.FnScaleSums", spec := "fnScaleSums", apart := false, narrowed := true }
def FnScaleSumsUptoSaid : Prop := fnScaleSumsUptoRow.holds Try.pinned (OpenSpec.upto fnScaleSumsSpec)

/-- 'laws.FnScaleDivides', WHERE WHAT IT READS IS OF BULK AT MOST 1048576: true; the input reads as it did. -/
def fnScaleDividesUptoRow : OpenClaim := { program := "ytpchihkegmihiaa", sum := "87d8687a41b7d82a3385ee5b84a2a2457fa64eae7e857255d48b3ed5d9803338", func := "pub-stockroom/laws.FnScaleDivides", spec := "fnScaleDivides", apart := false, narrowed := true }
def FnScaleDividesUptoSaid : Prop := fnScaleDividesUptoRow.holds Try.pinned (OpenSpec.upto fnScaleDividesSpec)

/-- 'laws.FnScaleTens', WHERE WHAT IT READS IS OF BULK AT MOST 1048576: true; the input reads as it did. -/
def fnScaleTensUptoRow : OpenClaim := { program := "ytpchihkegmihiaa", sum := "87d8687a41b7d82a3385ee5b84a2a2457fa64eae7e857255d48b3ed5d9803338", func := "pub-stockroom/laws.FnScaleTens", spec := "fnScaleTens", apart := false, narrowed := true }
def FnScaleTensUptoSaid : Prop := fnScaleTensUptoRow.holds Try.pinned (OpenSpec.upto fnScaleTensSpec)

/-- 'laws.FnAmountSub', WHERE WHAT IT READS IS OF BULK AT MOST 1048576: true; the input reads as it did. -/
def fnAmountSubUptoRow : OpenClaim := { program := "ytpchihkegmihiaa", sum := "87d8687a41b7d82a3385ee5b84a2a2457fa64eae7e857255d48b3ed5d9803338", func := "pub-stockroom/laws.FnAmountSub", spec := "fnAmountSub", apart := false, narrowed := true }
def FnAmountSubUptoSaid : Prop := fnAmountSubUptoRow.holds Try.pinned (OpenSpec.upto fnAmountSubSpec)

/-- 'laws.FnAmountSign', WHERE WHAT IT READS IS OF BULK AT MOST 1048576: true; the input reads as it did. -/
def fnAmountSignUptoRow : OpenClaim := { program := "ytpchihkegmihiaa", sum := "87d8687a41b7d82a3385ee5b84a2a2457fa64eae7e857255d48b3ed5d9803338", func := "pub-stockroom/laws.FnAmountSign", spec := "fnAmountSign", apart := false, narrowed := true }
def FnAmountSignUptoSaid : Prop := fnAmountSignUptoRow.holds Try.pinned (OpenSpec.upto fnAmountSignSpec)

/-- 'laws.FnAmountRounds', WHERE WHAT IT READS IS OF BULK AT MOST 1048576: true; the input reads as it did. -/
def fnAmountRoundsUptoRow : OpenClaim := { program := "ytpchihkegmihiaa", sum := "87d8687a41b7d82a3385ee5b84a2a2457fa64eae7e857255d48b3ed5d9803338", func := "pub-stockroom/laws.FnAmountRounds", spec := "fnAmountRounds", apart := false, narrowed := true }
def FnAmountRoundsUptoSaid : Prop := fnAmountRoundsUptoRow.holds Try.pinned (OpenSpec.upto fnAmountRoundsSpec)

end Rows
end Go.Proofs.Ytpchihkegmihiaa
