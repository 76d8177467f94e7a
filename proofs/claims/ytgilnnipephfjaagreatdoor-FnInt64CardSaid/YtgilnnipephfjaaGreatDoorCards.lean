/-
  DERIVED. GIVEN WITH THE SEED: THE CARDS: each row of YtgilnnipephfjaaGreatDoorRows.lean that lists a variable, with what it lists TIED to the program's text (the seventh form; the later family's looks); each row that meets fmt, with fmt's text TOLD by the authors' own Lean function (tested against real Go, not proved from fmt's source: count such statements apart). THE CARD IS WHAT COUNTS. Prove the row's statement (the work); the ties are given (YtgilnnipephfjaaGreatDoorTie.lean); close each card by the builder's one call (the guide's Derived/Test/ToyasCard.lean, 'card_holds'). Laid BY PROGRAM, IN A SANDBOX (cutbox-door.mjs). By AI agents, Wed Nov 11 2026. No macro, syntax, notation, axiom, sorry.
-/
import Derived.Test.YtgilnnipephfjaaGreatDoorRows
import GoSem.ClaimSeven
namespace Go.Proofs.YtgilnnipephfjaaGreatDoor
namespace Rows

/-- THE TIED CARD OF 'laws.FnParseTraps'. -/
def fnParseTrapsCard : Claim7 := { stood := { row := fnParseTrapsRow, standIns := [], harness := (true, "ebc21814b32ea41efb72b73701f088fc080b50114d6353b5054958745bbf2fd7"), looks := true }, kinds := [], alts := [], laidByText := true, laidKinds := [.data, .data, .data, .data, .sentinel, .sentinel, .sentinel, .sentinel, .sentinel, .data, .data, .data, .data, .data, .widerDeep, .pinned, .pinned], laidTests := true, laidLooks := .later }
def FnParseTrapsCardSaid : Prop := Claim7.holds Tryz.pinned (.plain (OpenSpec.ofChange fnParseTrapsSpec)) fnParseTrapsCard

/-- THE TIED CARD OF 'laws.FnInt64'. -/
def fnInt64Card : Claim7 := { stood := { row := fnInt64Row, standIns := [], harness := (true, "ebc21814b32ea41efb72b73701f088fc080b50114d6353b5054958745bbf2fd7"), looks := true }, kinds := [], alts := [], laidByText := true, laidKinds := [.data, .data, .data, .data, .sentinel, .sentinel, .sentinel, .sentinel, .sentinel, .data, .data, .data, .data, .data, .widerDeep, .pinned, .pinned], laidTests := true, laidLooks := .later }
def FnInt64CardSaid : Prop := Claim7.holds Tryz.pinned (.plain (OpenSpec.ofChange fnInt64Spec)) fnInt64Card

/-- THE TIED CARD OF 'laws.FnDecompose'. -/
def fnDecomposeCard : Claim7 := { stood := { row := fnDecomposeRow, standIns := [], harness := (true, "ebc21814b32ea41efb72b73701f088fc080b50114d6353b5054958745bbf2fd7"), looks := true }, kinds := [], alts := [], laidByText := true, laidKinds := [.data, .data, .data, .data, .sentinel, .sentinel, .sentinel, .sentinel, .sentinel, .data, .data, .data, .data, .data, .widerDeep, .pinned, .pinned], laidTests := true, laidLooks := .later }
def FnDecomposeCardSaid : Prop := Claim7.holds Tryz.pinned (.plain (OpenSpec.ofChange fnDecomposeSpec)) fnDecomposeCard

/-- THE SECOND FORM's CARD OF 'laws.FnParseTraps'. -/
def fnParseTrapsUptoCard : Claim7 := { stood := { row := fnParseTrapsUptoRow, standIns := [], harness := (true, "ebc21814b32ea41efb72b73701f088fc080b50114d6353b5054958745bbf2fd7"), looks := true }, kinds := [], alts := [], laidByText := true, laidKinds := [.data, .data, .data, .data, .sentinel, .sentinel, .sentinel, .sentinel, .sentinel, .data, .data, .data, .data, .data, .widerDeep, .pinned, .pinned], laidTests := true, laidLooks := .later }
def FnParseTrapsUptoCardSaid : Prop := Claim7.holds Tryz.pinned (.plain (OpenSpec.upto fnParseTrapsSpec)) fnParseTrapsUptoCard

/-- THE SECOND FORM's CARD OF 'laws.FnInt64'. -/
def fnInt64UptoCard : Claim7 := { stood := { row := fnInt64UptoRow, standIns := [], harness := (true, "ebc21814b32ea41efb72b73701f088fc080b50114d6353b5054958745bbf2fd7"), looks := true }, kinds := [], alts := [], laidByText := true, laidKinds := [.data, .data, .data, .data, .sentinel, .sentinel, .sentinel, .sentinel, .sentinel, .data, .data, .data, .data, .data, .widerDeep, .pinned, .pinned], laidTests := true, laidLooks := .later }
def FnInt64UptoCardSaid : Prop := Claim7.holds Tryz.pinned (.plain (OpenSpec.upto fnInt64Spec)) fnInt64UptoCard

/-- THE SECOND FORM's CARD OF 'laws.FnDecompose'. -/
def fnDecomposeUptoCard : Claim7 := { stood := { row := fnDecomposeUptoRow, standIns := [], harness := (true, "ebc21814b32ea41efb72b73701f088fc080b50114d6353b5054958745bbf2fd7"), looks := true }, kinds := [], alts := [], laidByText := true, laidKinds := [.data, .data, .data, .data, .sentinel, .sentinel, .sentinel, .sentinel, .sentinel, .data, .data, .data, .data, .data, .widerDeep, .pinned, .pinned], laidTests := true, laidLooks := .later }
def FnDecomposeUptoCardSaid : Prop := Claim7.holds Tryz.pinned (.plain (OpenSpec.upto fnDecomposeSpec)) fnDecomposeUptoCard
end Rows
end Go.Proofs.YtgilnnipephfjaaGreatDoor
