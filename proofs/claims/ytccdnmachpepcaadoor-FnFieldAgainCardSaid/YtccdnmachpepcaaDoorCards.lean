/-
  DERIVED. GIVEN WITH THE SEED: THE CARDS: each row of YtccdnmachpepcaaDoorRows.lean that lists a variable, with what it lists TIED to the program's text (the seventh form; the later family's looks); each row that meets fmt, with fmt's text TOLD by the authors' own Lean function (tested against real Go, not proved from fmt's source: count such statements apart). THE CARD IS WHAT COUNTS. Prove the row's statement (the work); the ties are given (YtccdnmachpepcaaDoorTie.lean); close each card by the builder's one call (the guide's Derived/Test/ToyasCard.lean, 'card_holds'). Laid BY PROGRAM, IN A SANDBOX (cutbox-door.mjs). By AI agents, Wed Nov 11 2026. No macro, syntax, notation, axiom, sorry.
-/
import Derived.Test.YtccdnmachpepcaaDoorRows
import GoSem.ClaimSeven
namespace Go.Proofs.YtccdnmachpepcaaDoor
namespace Rows

/-- THE TIED CARD OF 'laws.FnFieldExact'. -/
def fnFieldExactCard : Claim7 := { stood := { row := fnFieldExactRow, standIns := [], harness := (true, "cba96bd66643609353a10a1d50918209c1253ec3ffec2ab9a12659dc0c8e2637"), looks := false }, kinds := [], alts := [], laidByText := true, laidKinds := [.sentinel], laidTests := true, laidLooks := .later }
def FnFieldExactCardSaid : Prop := Claim7.holds Tryd.pinned (.plain (OpenSpec.ofChange fnFieldExactSpec)) fnFieldExactCard

/-- THE TIED CARD OF 'laws.FnFieldAgain'. -/
def fnFieldAgainCard : Claim7 := { stood := { row := fnFieldAgainRow, standIns := [], harness := (true, "cba96bd66643609353a10a1d50918209c1253ec3ffec2ab9a12659dc0c8e2637"), looks := false }, kinds := [], alts := [], laidByText := true, laidKinds := [.sentinel], laidTests := true, laidLooks := .later }
def FnFieldAgainCardSaid : Prop := Claim7.holds Tryd.pinned (.plain (OpenSpec.ofChange fnFieldAgainSpec)) fnFieldAgainCard

/-- THE SECOND FORM's CARD OF 'laws.FnFieldExact'. -/
def fnFieldExactUptoCard : Claim7 := { stood := { row := fnFieldExactUptoRow, standIns := [], harness := (true, "cba96bd66643609353a10a1d50918209c1253ec3ffec2ab9a12659dc0c8e2637"), looks := false }, kinds := [], alts := [], laidByText := true, laidKinds := [.sentinel], laidTests := true, laidLooks := .later }
def FnFieldExactUptoCardSaid : Prop := Claim7.holds Tryd.pinned (.plain (OpenSpec.upto fnFieldExactSpec)) fnFieldExactUptoCard

/-- THE SECOND FORM's CARD OF 'laws.FnFieldAgain'. -/
def fnFieldAgainUptoCard : Claim7 := { stood := { row := fnFieldAgainUptoRow, standIns := [], harness := (true, "cba96bd66643609353a10a1d50918209c1253ec3ffec2ab9a12659dc0c8e2637"), looks := false }, kinds := [], alts := [], laidByText := true, laidKinds := [.sentinel], laidTests := true, laidLooks := .later }
def FnFieldAgainUptoCardSaid : Prop := Claim7.holds Tryd.pinned (.plain (OpenSpec.upto fnFieldAgainSpec)) fnFieldAgainUptoCard
end Rows
end Go.Proofs.YtccdnmachpepcaaDoor
