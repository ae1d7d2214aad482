/-
  DERIVED. GIVEN WITH THE SEED: THE CARDS: each row of YtmkpkpkcoieeiaaDoorRows.lean that lists a variable, with what it lists TIED to the program's text (the seventh form; the later family's looks); each row that meets fmt, with fmt's text TOLD by the authors' own Lean function (tested against real Go, not proved from fmt's source: count such statements apart). THE CARD IS WHAT COUNTS. Prove the row's statement (the work); the ties are given (YtmkpkpkcoieeiaaDoorTie.lean); close each card by the builder's one call (the guide's Derived/Test/ToyasCard.lean, 'card_holds'). Laid BY PROGRAM, IN A SANDBOX (cutbox-door.mjs). By AI agents, Wed Nov 11 2026. No macro, syntax, notation, axiom, sorry.
-/
import Derived.Test.YtmkpkpkcoieeiaaDoorRows
import GoSem.ClaimSeven
namespace Go.Proofs.YtmkpkpkcoieeiaaDoor
namespace Rows

/-- THE TIED CARD OF 'laws.FnIntStrParse'. -/
def fnIntStrParseCard : Claim7 := { stood := { row := fnIntStrParseRow, standIns := [], harness := (true, "be970dc2ac664b51d47388e5dad3be55df00fc29221b6b56ad2296428860c6c6"), looks := true }, kinds := [], alts := [], laidByText := true, laidKinds := [.data, .data, .data, .sentinel, .sentinel], laidTests := true, laidLooks := .later }
def FnIntStrParseCardSaid : Prop := Claim7.holds Tryd.pinned (.plain (OpenSpec.ofChange fnIntStrParseSpec)) fnIntStrParseCard

/-- THE TIED CARD OF 'laws.FnIntStrValue'. -/
def fnIntStrValueCard : Claim7 := { stood := { row := fnIntStrValueRow, standIns := [], harness := (true, "be970dc2ac664b51d47388e5dad3be55df00fc29221b6b56ad2296428860c6c6"), looks := true }, kinds := [], alts := [], laidByText := true, laidKinds := [.data, .data, .data, .sentinel, .sentinel], laidTests := true, laidLooks := .later }
def FnIntStrValueCardSaid : Prop := Claim7.holds Tryd.pinned (.plain (OpenSpec.ofChange fnIntStrValueSpec)) fnIntStrValueCard

/-- THE TIED CARD OF 'laws.FnKubeMade'. -/
def fnKubeMadeCard : Claim7 := { stood := { row := fnKubeMadeRow, standIns := [], harness := (true, "be970dc2ac664b51d47388e5dad3be55df00fc29221b6b56ad2296428860c6c6"), looks := true }, kinds := [], alts := [], laidByText := true, laidKinds := [.data, .data, .data, .sentinel, .sentinel], laidTests := true, laidLooks := .later }
def FnKubeMadeCardSaid : Prop := Claim7.holds Tryd.pinned (.plain (OpenSpec.ofChange fnKubeMadeSpec)) fnKubeMadeCard

/-- THE TIED CARD OF 'laws.FnKubeCompare'. -/
def fnKubeCompareCard : Claim7 := { stood := { row := fnKubeCompareRow, standIns := [], harness := (true, "be970dc2ac664b51d47388e5dad3be55df00fc29221b6b56ad2296428860c6c6"), looks := true }, kinds := [], alts := [], laidByText := true, laidKinds := [.data, .data, .data, .sentinel, .sentinel], laidTests := true, laidLooks := .later }
def FnKubeCompareCardSaid : Prop := Claim7.holds Tryd.pinned (.plain (OpenSpec.ofChange fnKubeCompareSpec)) fnKubeCompareCard

/-- THE SECOND FORM's CARD OF 'laws.FnIntStrParse'. -/
def fnIntStrParseUptoCard : Claim7 := { stood := { row := fnIntStrParseUptoRow, standIns := [], harness := (true, "be970dc2ac664b51d47388e5dad3be55df00fc29221b6b56ad2296428860c6c6"), looks := true }, kinds := [], alts := [], laidByText := true, laidKinds := [.data, .data, .data, .sentinel, .sentinel], laidTests := true, laidLooks := .later }
def FnIntStrParseUptoCardSaid : Prop := Claim7.holds Tryd.pinned (.plain (OpenSpec.upto fnIntStrParseSpec)) fnIntStrParseUptoCard

/-- THE SECOND FORM's CARD OF 'laws.FnIntStrValue'. -/
def fnIntStrValueUptoCard : Claim7 := { stood := { row := fnIntStrValueUptoRow, standIns := [], harness := (true, "be970dc2ac664b51d47388e5dad3be55df00fc29221b6b56ad2296428860c6c6"), looks := true }, kinds := [], alts := [], laidByText := true, laidKinds := [.data, .data, .data, .sentinel, .sentinel], laidTests := true, laidLooks := .later }
def FnIntStrValueUptoCardSaid : Prop := Claim7.holds Tryd.pinned (.plain (OpenSpec.upto fnIntStrValueSpec)) fnIntStrValueUptoCard

/-- THE SECOND FORM's CARD OF 'laws.FnKubeMade'. -/
def fnKubeMadeUptoCard : Claim7 := { stood := { row := fnKubeMadeUptoRow, standIns := [], harness := (true, "be970dc2ac664b51d47388e5dad3be55df00fc29221b6b56ad2296428860c6c6"), looks := true }, kinds := [], alts := [], laidByText := true, laidKinds := [.data, .data, .data, .sentinel, .sentinel], laidTests := true, laidLooks := .later }
def FnKubeMadeUptoCardSaid : Prop := Claim7.holds Tryd.pinned (.plain (OpenSpec.upto fnKubeMadeSpec)) fnKubeMadeUptoCard

/-- THE SECOND FORM's CARD OF 'laws.FnKubeCompare'. -/
def fnKubeCompareUptoCard : Claim7 := { stood := { row := fnKubeCompareUptoRow, standIns := [], harness := (true, "be970dc2ac664b51d47388e5dad3be55df00fc29221b6b56ad2296428860c6c6"), looks := true }, kinds := [], alts := [], laidByText := true, laidKinds := [.data, .data, .data, .sentinel, .sentinel], laidTests := true, laidLooks := .later }
def FnKubeCompareUptoCardSaid : Prop := Claim7.holds Tryd.pinned (.plain (OpenSpec.upto fnKubeCompareSpec)) fnKubeCompareUptoCard
end Rows
end Go.Proofs.YtmkpkpkcoieeiaaDoor
