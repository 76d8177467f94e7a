/-
  DERIVED. GIVEN WITH THE SEED: THE CARDS: each row of YtfhnkcdlphfbpaaGreatDoorRows.lean that lists a variable, with what it lists TIED to the program's text (the seventh form; the later family's looks); each row that meets fmt, with fmt's text TOLD by the authors' own Lean function (tested against real Go, not proved from fmt's source: count such statements apart). THE CARD IS WHAT COUNTS. Prove the row's statement (the work); the ties are given (YtfhnkcdlphfbpaaGreatDoorTie.lean); close each card by the builder's one call (the guide's Derived/Test/ToyasCard.lean, 'card_holds'). Laid BY PROGRAM, IN A SANDBOX (cutbox-door.mjs). By AI agents, Wed Nov 11 2026. No macro, syntax, notation, axiom, sorry.
-/
import Derived.Test.YtfhnkcdlphfbpaaGreatDoorRows
import GoSem.ClaimSeven
namespace Go.Proofs.YtfhnkcdlphfbpaaGreatDoor
namespace Rows

/-- THE TIED CARD OF 'laws.FnModf'. -/
def fnModfCard : Claim7 := { stood := { row := fnModfRow, standIns := [], harness := (true, "e227a3be639c096290cb1c61e633088e899b3095795d24fa081d2a7839667d3b"), looks := true }, kinds := [], alts := [], laidByText := true, laidKinds := [.data, .data, .data, .data, .sentinel, .sentinel, .sentinel, .sentinel, .sentinel, .data, .data, .data, .data, .data, .widerDeep, .pinned, .pinned], laidTests := true, laidLooks := .later }
def FnModfCardSaid : Prop := Claim7.holds Tryz.pinned (.plain (OpenSpec.ofChange fnModfSpec)) fnModfCard

/-- THE TIED CARD OF 'laws.FnInt64'. -/
def fnInt64Card : Claim7 := { stood := { row := fnInt64Row, standIns := [], harness := (true, "e227a3be639c096290cb1c61e633088e899b3095795d24fa081d2a7839667d3b"), looks := true }, kinds := [], alts := [], laidByText := true, laidKinds := [.data, .data, .data, .data, .sentinel, .sentinel, .sentinel, .sentinel, .sentinel, .data, .data, .data, .data, .data, .widerDeep, .pinned, .pinned], laidTests := true, laidLooks := .later }
def FnInt64CardSaid : Prop := Claim7.holds Tryz.pinned (.plain (OpenSpec.ofChange fnInt64Spec)) fnInt64Card

/-- THE TIED CARD OF 'laws.FnCompose'. -/
def fnComposeCard : Claim7 := { stood := { row := fnComposeRow, standIns := [], harness := (true, "e227a3be639c096290cb1c61e633088e899b3095795d24fa081d2a7839667d3b"), looks := true }, kinds := [], alts := [], laidByText := true, laidKinds := [.data, .data, .data, .data, .sentinel, .sentinel, .sentinel, .sentinel, .sentinel, .data, .data, .data, .data, .data, .widerDeep, .pinned, .pinned], laidTests := true, laidLooks := .later }
def FnComposeCardSaid : Prop := Claim7.holds Tryz.pinned (.plain (OpenSpec.ofChange fnComposeSpec)) fnComposeCard

/-- THE TIED CARD OF 'laws.FnShorten'. -/
def fnShortenCard : Claim7 := { stood := { row := fnShortenRow, standIns := [], harness := (true, "e227a3be639c096290cb1c61e633088e899b3095795d24fa081d2a7839667d3b"), looks := true }, kinds := [], alts := [], laidByText := true, laidKinds := [.data, .data, .data, .data, .sentinel, .sentinel, .sentinel, .sentinel, .sentinel, .data, .data, .data, .data, .data, .widerDeep, .pinned, .pinned], laidTests := true, laidLooks := .later }
def FnShortenCardSaid : Prop := Claim7.holds Tryz.pinned (.plain (OpenSpec.ofChange fnShortenSpec)) fnShortenCard

/-- THE TIED CARD OF 'laws.FnDecompose'. -/
def fnDecomposeCard : Claim7 := { stood := { row := fnDecomposeRow, standIns := [], harness := (true, "e227a3be639c096290cb1c61e633088e899b3095795d24fa081d2a7839667d3b"), looks := true }, kinds := [], alts := [], laidByText := true, laidKinds := [.data, .data, .data, .data, .sentinel, .sentinel, .sentinel, .sentinel, .sentinel, .data, .data, .data, .data, .data, .widerDeep, .pinned, .pinned], laidTests := true, laidLooks := .later }
def FnDecomposeCardSaid : Prop := Claim7.holds Tryz.pinned (.plain (OpenSpec.ofChange fnDecomposeSpec)) fnDecomposeCard

/-- THE SECOND FORM's CARD OF 'laws.FnModf'. -/
def fnModfUptoCard : Claim7 := { stood := { row := fnModfUptoRow, standIns := [], harness := (true, "e227a3be639c096290cb1c61e633088e899b3095795d24fa081d2a7839667d3b"), looks := true }, kinds := [], alts := [], laidByText := true, laidKinds := [.data, .data, .data, .data, .sentinel, .sentinel, .sentinel, .sentinel, .sentinel, .data, .data, .data, .data, .data, .widerDeep, .pinned, .pinned], laidTests := true, laidLooks := .later }
def FnModfUptoCardSaid : Prop := Claim7.holds Tryz.pinned (.plain (OpenSpec.upto fnModfSpec)) fnModfUptoCard

/-- THE SECOND FORM's CARD OF 'laws.FnInt64'. -/
def fnInt64UptoCard : Claim7 := { stood := { row := fnInt64UptoRow, standIns := [], harness := (true, "e227a3be639c096290cb1c61e633088e899b3095795d24fa081d2a7839667d3b"), looks := true }, kinds := [], alts := [], laidByText := true, laidKinds := [.data, .data, .data, .data, .sentinel, .sentinel, .sentinel, .sentinel, .sentinel, .data, .data, .data, .data, .data, .widerDeep, .pinned, .pinned], laidTests := true, laidLooks := .later }
def FnInt64UptoCardSaid : Prop := Claim7.holds Tryz.pinned (.plain (OpenSpec.upto fnInt64Spec)) fnInt64UptoCard

/-- THE SECOND FORM's CARD OF 'laws.FnCompose'. -/
def fnComposeUptoCard : Claim7 := { stood := { row := fnComposeUptoRow, standIns := [], harness := (true, "e227a3be639c096290cb1c61e633088e899b3095795d24fa081d2a7839667d3b"), looks := true }, kinds := [], alts := [], laidByText := true, laidKinds := [.data, .data, .data, .data, .sentinel, .sentinel, .sentinel, .sentinel, .sentinel, .data, .data, .data, .data, .data, .widerDeep, .pinned, .pinned], laidTests := true, laidLooks := .later }
def FnComposeUptoCardSaid : Prop := Claim7.holds Tryz.pinned (.plain (OpenSpec.upto fnComposeSpec)) fnComposeUptoCard

/-- THE SECOND FORM's CARD OF 'laws.FnShorten'. -/
def fnShortenUptoCard : Claim7 := { stood := { row := fnShortenUptoRow, standIns := [], harness := (true, "e227a3be639c096290cb1c61e633088e899b3095795d24fa081d2a7839667d3b"), looks := true }, kinds := [], alts := [], laidByText := true, laidKinds := [.data, .data, .data, .data, .sentinel, .sentinel, .sentinel, .sentinel, .sentinel, .data, .data, .data, .data, .data, .widerDeep, .pinned, .pinned], laidTests := true, laidLooks := .later }
def FnShortenUptoCardSaid : Prop := Claim7.holds Tryz.pinned (.plain (OpenSpec.upto fnShortenSpec)) fnShortenUptoCard

/-- THE SECOND FORM's CARD OF 'laws.FnDecompose'. -/
def fnDecomposeUptoCard : Claim7 := { stood := { row := fnDecomposeUptoRow, standIns := [], harness := (true, "e227a3be639c096290cb1c61e633088e899b3095795d24fa081d2a7839667d3b"), looks := true }, kinds := [], alts := [], laidByText := true, laidKinds := [.data, .data, .data, .data, .sentinel, .sentinel, .sentinel, .sentinel, .sentinel, .data, .data, .data, .data, .data, .widerDeep, .pinned, .pinned], laidTests := true, laidLooks := .later }
def FnDecomposeUptoCardSaid : Prop := Claim7.holds Tryz.pinned (.plain (OpenSpec.upto fnDecomposeSpec)) fnDecomposeUptoCard
end Rows
end Go.Proofs.YtfhnkcdlphfbpaaGreatDoor
