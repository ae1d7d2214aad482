/-
  DERIVED. GIVEN WITH THE SEED: THE CARDS: each row of YtmkpkpkcoieeiabDoorRows.lean that lists a variable, with what it lists TIED to the program's text (the seventh form; the later family's looks); each row that meets fmt, with fmt's text TOLD by the authors' own Lean function (tested against real Go, not proved from fmt's source: count such statements apart). THE CARD IS WHAT COUNTS. Prove the row's statement (the work); the ties are given (YtmkpkpkcoieeiabDoorTie.lean); close each card by the builder's one call (the guide's Derived/Test/ToyasCard.lean, 'card_holds'). Laid BY PROGRAM, IN A SANDBOX (cutbox-door.mjs). By AI agents, Wed Nov 11 2026. No macro, syntax, notation, axiom, sorry.
-/
import Derived.Test.YtmkpkpkcoieeiabDoorRows
import GoSem.ClaimSeven
namespace Go.Proofs.YtmkpkpkcoieeiabDoor
namespace Rows

/-- THE TIED CARD OF 'laws.FnPorts'. -/
def fnPortsCard : Claim7 := { stood := { row := fnPortsRow, standIns := [], harness := (true, "92a51dd42f682cffaab361851b2c3beccfc723e2cc8e94eb1010cf46ef0df532"), looks := true }, kinds := [], alts := [], laidByText := true, laidKinds := [.data, .data, .data, .data, .sentinel, .sentinel, .pinned], laidTests := true, laidLooks := .later }
def FnPortsCardSaid : Prop := Claim7.holds Tryd.pinned (.plain (OpenSpec.ofChange fnPortsSpec)) fnPortsCard

/-- THE TIED CARD OF 'laws.FnPortsWrong'. -/
def fnPortsWrongCard : Claim7 := { stood := { row := fnPortsWrongRow, standIns := [], harness := (true, "92a51dd42f682cffaab361851b2c3beccfc723e2cc8e94eb1010cf46ef0df532"), looks := true }, kinds := [], alts := [], laidByText := true, laidKinds := [.data, .data, .data, .data, .sentinel, .sentinel, .pinned], laidTests := true, laidLooks := .later }
def FnPortsWrongCardSaid : Prop := Claim7.holds Tryd.pinned (.plain (OpenSpec.ofChange fnPortsWrongSpec)) fnPortsWrongCard

/-- THE TIED CARD OF 'laws.FnFieldUnescape'. -/
def fnFieldUnescapeCard : Claim7 := { stood := { row := fnFieldUnescapeRow, standIns := [], harness := (true, "92a51dd42f682cffaab361851b2c3beccfc723e2cc8e94eb1010cf46ef0df532"), looks := true }, kinds := [], alts := [], laidByText := true, laidKinds := [.sentinel], laidTests := true, laidLooks := .later }
def FnFieldUnescapeCardSaid : Prop := Claim7.holds Tryd.pinned (.plain (OpenSpec.ofChange fnFieldUnescapeSpec)) fnFieldUnescapeCard

/-- THE TIED CARD OF 'laws.FnIntStrBytes'. -/
def fnIntStrBytesCard : Claim7 := { stood := { row := fnIntStrBytesRow, standIns := [], harness := (true, "92a51dd42f682cffaab361851b2c3beccfc723e2cc8e94eb1010cf46ef0df532"), looks := true }, kinds := [], alts := [], laidByText := true, laidKinds := [.sentinel, .sentinel, .sentinel, .sentinel], laidTests := true, laidLooks := .later }
def FnIntStrBytesCardSaid : Prop := Claim7.holds Tryd.pinned (.plain (OpenSpec.ofChange fnIntStrBytesSpec)) fnIntStrBytesCard

/-- THE TIED CARD OF 'laws.FnIntStrCut'. -/
def fnIntStrCutCard : Claim7 := { stood := { row := fnIntStrCutRow, standIns := [], harness := (true, "92a51dd42f682cffaab361851b2c3beccfc723e2cc8e94eb1010cf46ef0df532"), looks := true }, kinds := [], alts := [], laidByText := true, laidKinds := [.sentinel, .sentinel, .sentinel, .sentinel], laidTests := true, laidLooks := .later }
def FnIntStrCutCardSaid : Prop := Claim7.holds Tryd.pinned (.plain (OpenSpec.ofChange fnIntStrCutSpec)) fnIntStrCutCard

/-- THE SECOND FORM's CARD OF 'laws.FnPorts'. -/
def fnPortsUptoCard : Claim7 := { stood := { row := fnPortsUptoRow, standIns := [], harness := (true, "92a51dd42f682cffaab361851b2c3beccfc723e2cc8e94eb1010cf46ef0df532"), looks := true }, kinds := [], alts := [], laidByText := true, laidKinds := [.data, .data, .data, .data, .sentinel, .sentinel, .pinned], laidTests := true, laidLooks := .later }
def FnPortsUptoCardSaid : Prop := Claim7.holds Tryd.pinned (.plain (OpenSpec.upto fnPortsSpec)) fnPortsUptoCard

/-- THE SECOND FORM's CARD OF 'laws.FnPortsWrong'. -/
def fnPortsWrongUptoCard : Claim7 := { stood := { row := fnPortsWrongUptoRow, standIns := [], harness := (true, "92a51dd42f682cffaab361851b2c3beccfc723e2cc8e94eb1010cf46ef0df532"), looks := true }, kinds := [], alts := [], laidByText := true, laidKinds := [.data, .data, .data, .data, .sentinel, .sentinel, .pinned], laidTests := true, laidLooks := .later }
def FnPortsWrongUptoCardSaid : Prop := Claim7.holds Tryd.pinned (.plain (OpenSpec.upto fnPortsWrongSpec)) fnPortsWrongUptoCard

/-- THE SECOND FORM's CARD OF 'laws.FnFieldUnescape'. -/
def fnFieldUnescapeUptoCard : Claim7 := { stood := { row := fnFieldUnescapeUptoRow, standIns := [], harness := (true, "92a51dd42f682cffaab361851b2c3beccfc723e2cc8e94eb1010cf46ef0df532"), looks := true }, kinds := [], alts := [], laidByText := true, laidKinds := [.sentinel], laidTests := true, laidLooks := .later }
def FnFieldUnescapeUptoCardSaid : Prop := Claim7.holds Tryd.pinned (.plain (OpenSpec.upto fnFieldUnescapeSpec)) fnFieldUnescapeUptoCard

/-- THE SECOND FORM's CARD OF 'laws.FnIntStrBytes'. -/
def fnIntStrBytesUptoCard : Claim7 := { stood := { row := fnIntStrBytesUptoRow, standIns := [], harness := (true, "92a51dd42f682cffaab361851b2c3beccfc723e2cc8e94eb1010cf46ef0df532"), looks := true }, kinds := [], alts := [], laidByText := true, laidKinds := [.sentinel, .sentinel, .sentinel, .sentinel], laidTests := true, laidLooks := .later }
def FnIntStrBytesUptoCardSaid : Prop := Claim7.holds Tryd.pinned (.plain (OpenSpec.upto fnIntStrBytesSpec)) fnIntStrBytesUptoCard

/-- THE SECOND FORM's CARD OF 'laws.FnIntStrCut'. -/
def fnIntStrCutUptoCard : Claim7 := { stood := { row := fnIntStrCutUptoRow, standIns := [], harness := (true, "92a51dd42f682cffaab361851b2c3beccfc723e2cc8e94eb1010cf46ef0df532"), looks := true }, kinds := [], alts := [], laidByText := true, laidKinds := [.sentinel, .sentinel, .sentinel, .sentinel], laidTests := true, laidLooks := .later }
def FnIntStrCutUptoCardSaid : Prop := Claim7.holds Tryd.pinned (.plain (OpenSpec.upto fnIntStrCutSpec)) fnIntStrCutUptoCard
end Rows
end Go.Proofs.YtmkpkpkcoieeiabDoor
