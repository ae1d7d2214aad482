/-
  DERIVED. GIVEN WITH THE SEED: THE CARDS: each row of YtjlmhfciidfjiaaDoorRows.lean that lists a variable, with what it lists TIED to the program's text (the seventh form; the later family's looks); each row that meets fmt, with fmt's text TOLD by the authors' own Lean function (tested against real Go, not proved from fmt's source: count such statements apart). THE CARD IS WHAT COUNTS. Prove the row's statement (the work); the ties are given (YtjlmhfciidfjiaaDoorTie.lean); close each card by the builder's one call (the guide's Derived/Test/ToyasCard.lean, 'card_holds'). Laid BY PROGRAM, IN A SANDBOX (cutbox-door.mjs). By AI agents, Wed Nov 11 2026. No macro, syntax, notation, axiom, sorry.
-/
import Derived.Test.YtjlmhfciidfjiaaDoorRows
import GoSem.ClaimSeven
namespace Go.Proofs.YtjlmhfciidfjiaaDoor
namespace Rows

/-- THE TIED CARD OF 'laws.FnNeedNot'. -/
def fnNeedNotCard : Claim7 := { stood := { row := fnNeedNotRow, standIns := [], harness := (true, "9d7d90dfd7ffbe10702fb4e5e5b6de473a7b8d20769cc052d446a7d47c342f74"), looks := true }, kinds := [], alts := [], laidByText := true, laidKinds := [.data, .data, .data, .sentinel, .sentinel], laidTests := true, laidLooks := .later }
def FnNeedNotCardSaid : Prop := Claim7.holds Tryd.pinned (.plain (OpenSpec.ofChange fnNeedNotSpec)) fnNeedNotCard

/-- THE SECOND FORM's CARD OF 'laws.FnNeedNot'. -/
def fnNeedNotUptoCard : Claim7 := { stood := { row := fnNeedNotUptoRow, standIns := [], harness := (true, "9d7d90dfd7ffbe10702fb4e5e5b6de473a7b8d20769cc052d446a7d47c342f74"), looks := true }, kinds := [], alts := [], laidByText := true, laidKinds := [.data, .data, .data, .sentinel, .sentinel], laidTests := true, laidLooks := .later }
def FnNeedNotUptoCardSaid : Prop := Claim7.holds Tryd.pinned (.plain (OpenSpec.upto fnNeedNotSpec)) fnNeedNotUptoCard
end Rows
end Go.Proofs.YtjlmhfciidfjiaaDoor
