/-
  DERIVED. GIVEN WITH THE SEED: THE CARDS: each row of YtmfgkidppchobaaDoorRows.lean that lists a variable, with what it lists TIED to the program's text (the seventh form; the later family's looks); each row that meets fmt, with fmt's text TOLD by the authors' own Lean function (tested against real Go, not proved from fmt's source: count such statements apart). THE CARD IS WHAT COUNTS. Prove the row's statement (the work); the ties are given (YtmfgkidppchobaaDoorTie.lean); close each card by the builder's one call (the guide's Derived/Test/ToyasCard.lean, 'card_holds'). Laid BY PROGRAM, IN A SANDBOX (cutbox-door.mjs). By AI agents, Wed Nov 11 2026. No macro, syntax, notation, axiom, sorry.
-/
import Derived.Test.YtmfgkidppchobaaDoorRows
import GoSem.ClaimSeven
namespace Go.Proofs.YtmfgkidppchobaaDoor
namespace Rows

/-- THE TIED CARD OF 'laws.FnVersionCompare'. -/
def fnVersionCompareCard : Claim7 := { stood := { row := fnVersionCompareRow, standIns := [], harness := (true, "490f67dacc302ad5806f6cb6f74d5db069d136238ddf65817ebc3032583ff890"), looks := true }, kinds := [], alts := [], laidByText := true, laidKinds := [.data, .data, .data, .sentinel, .sentinel], laidTests := true, laidLooks := .later }
def FnVersionCompareCardSaid : Prop := Claim7.holds Tryd.pinned (.plain (OpenSpec.ofChange fnVersionCompareSpec)) fnVersionCompareCard

/-- THE TIED CARD OF 'laws.FnVersionOrder'. -/
def fnVersionOrderCard : Claim7 := { stood := { row := fnVersionOrderRow, standIns := [], harness := (true, "490f67dacc302ad5806f6cb6f74d5db069d136238ddf65817ebc3032583ff890"), looks := true }, kinds := [], alts := [], laidByText := true, laidKinds := [.data, .data, .data, .sentinel, .sentinel], laidTests := true, laidLooks := .later }
def FnVersionOrderCardSaid : Prop := Claim7.holds Tryd.pinned (.plain (OpenSpec.ofChange fnVersionOrderSpec)) fnVersionOrderCard

/-- THE TIED CARD OF 'laws.FnVersionMinors'. -/
def fnVersionMinorsCard : Claim7 := { stood := { row := fnVersionMinorsRow, standIns := [], harness := (true, "490f67dacc302ad5806f6cb6f74d5db069d136238ddf65817ebc3032583ff890"), looks := true }, kinds := [], alts := [], laidByText := true, laidKinds := [.data, .data, .data, .sentinel, .sentinel, .sentinel], laidTests := true, laidLooks := .later }
def FnVersionMinorsCardSaid : Prop := Claim7.holds Tryd.pinned (.plain (OpenSpec.ofChange fnVersionMinorsSpec)) fnVersionMinorsCard

/-- THE TIED CARD OF 'laws.FnVersionBack'. -/
def fnVersionBackCard : Claim7 := { stood := { row := fnVersionBackRow, standIns := [], harness := (true, "490f67dacc302ad5806f6cb6f74d5db069d136238ddf65817ebc3032583ff890"), looks := true }, kinds := [], alts := [], laidByText := true, laidKinds := [.data, .data, .data, .sentinel, .sentinel, .sentinel], laidTests := true, laidLooks := .later }
def FnVersionBackCardSaid : Prop := Claim7.holds Tryd.pinned (.plain (OpenSpec.ofChange fnVersionBackSpec)) fnVersionBackCard

/-- THE TIED CARD OF 'laws.FnVersionWays'. -/
def fnVersionWaysCard : Claim7 := { stood := { row := fnVersionWaysRow, standIns := [], harness := (true, "490f67dacc302ad5806f6cb6f74d5db069d136238ddf65817ebc3032583ff890"), looks := true }, kinds := [], alts := [], laidByText := true, laidKinds := [.data, .data, .data, .sentinel, .sentinel, .sentinel], laidTests := true, laidLooks := .later }
def FnVersionWaysCardSaid : Prop := Claim7.holds Tryd.pinned (.plain (OpenSpec.ofChange fnVersionWaysSpec)) fnVersionWaysCard

/-- THE SECOND FORM's CARD OF 'laws.FnVersionCompare'. -/
def fnVersionCompareUptoCard : Claim7 := { stood := { row := fnVersionCompareUptoRow, standIns := [], harness := (true, "490f67dacc302ad5806f6cb6f74d5db069d136238ddf65817ebc3032583ff890"), looks := true }, kinds := [], alts := [], laidByText := true, laidKinds := [.data, .data, .data, .sentinel, .sentinel], laidTests := true, laidLooks := .later }
def FnVersionCompareUptoCardSaid : Prop := Claim7.holds Tryd.pinned (.plain (OpenSpec.upto fnVersionCompareSpec)) fnVersionCompareUptoCard

/-- THE SECOND FORM's CARD OF 'laws.FnVersionOrder'. -/
def fnVersionOrderUptoCard : Claim7 := { stood := { row := fnVersionOrderUptoRow, standIns := [], harness := (true, "490f67dacc302ad5806f6cb6f74d5db069d136238ddf65817ebc3032583ff890"), looks := true }, kinds := [], alts := [], laidByText := true, laidKinds := [.data, .data, .data, .sentinel, .sentinel], laidTests := true, laidLooks := .later }
def FnVersionOrderUptoCardSaid : Prop := Claim7.holds Tryd.pinned (.plain (OpenSpec.upto fnVersionOrderSpec)) fnVersionOrderUptoCard

/-- THE SECOND FORM's CARD OF 'laws.FnVersionMinors'. -/
def fnVersionMinorsUptoCard : Claim7 := { stood := { row := fnVersionMinorsUptoRow, standIns := [], harness := (true, "490f67dacc302ad5806f6cb6f74d5db069d136238ddf65817ebc3032583ff890"), looks := true }, kinds := [], alts := [], laidByText := true, laidKinds := [.data, .data, .data, .sentinel, .sentinel, .sentinel], laidTests := true, laidLooks := .later }
def FnVersionMinorsUptoCardSaid : Prop := Claim7.holds Tryd.pinned (.plain (OpenSpec.upto fnVersionMinorsSpec)) fnVersionMinorsUptoCard

/-- THE SECOND FORM's CARD OF 'laws.FnVersionBack'. -/
def fnVersionBackUptoCard : Claim7 := { stood := { row := fnVersionBackUptoRow, standIns := [], harness := (true, "490f67dacc302ad5806f6cb6f74d5db069d136238ddf65817ebc3032583ff890"), looks := true }, kinds := [], alts := [], laidByText := true, laidKinds := [.data, .data, .data, .sentinel, .sentinel, .sentinel], laidTests := true, laidLooks := .later }
def FnVersionBackUptoCardSaid : Prop := Claim7.holds Tryd.pinned (.plain (OpenSpec.upto fnVersionBackSpec)) fnVersionBackUptoCard

/-- THE SECOND FORM's CARD OF 'laws.FnVersionWays'. -/
def fnVersionWaysUptoCard : Claim7 := { stood := { row := fnVersionWaysUptoRow, standIns := [], harness := (true, "490f67dacc302ad5806f6cb6f74d5db069d136238ddf65817ebc3032583ff890"), looks := true }, kinds := [], alts := [], laidByText := true, laidKinds := [.data, .data, .data, .sentinel, .sentinel, .sentinel], laidTests := true, laidLooks := .later }
def FnVersionWaysUptoCardSaid : Prop := Claim7.holds Tryd.pinned (.plain (OpenSpec.upto fnVersionWaysSpec)) fnVersionWaysUptoCard
end Rows
end Go.Proofs.YtmfgkidppchobaaDoor
