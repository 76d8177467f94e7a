/-
  DERIVED. GIVEN WITH THE SEED: THE CARDS: each row of YtkfephcllglkkaaGreatDoorRows.lean that lists a variable, with what it lists TIED to the program's text (the seventh form; the later family's looks); each row that meets fmt, with fmt's text TOLD by the authors' own Lean function (tested against real Go, not proved from fmt's source: count such statements apart). THE CARD IS WHAT COUNTS. Prove the row's statement (the work); the ties are given (YtkfephcllglkkaaGreatDoorTie.lean); close each card by the builder's one call (the guide's Derived/Test/ToyasCard.lean, 'card_holds'). Laid BY PROGRAM, IN A SANDBOX (cutbox-door.mjs). By AI agents, Wed Nov 11 2026. No macro, syntax, notation, axiom, sorry.
-/
import Derived.Test.YtkfephcllglkkaaGreatDoorRows
import GoSem.ClaimSeven
namespace Go.Proofs.YtkfephcllglkkaaGreatDoor
namespace Rows

/-- THE TIED CARD OF 'laws.FnTell'. -/
def fnTellCard : Claim7 := { stood := { row := fnTellRow, standIns := [], harness := (true, "0d831b50ee99e6ad99b0b8dcdd33ac8720a8a642f997242ad9a53efd4548f091"), looks := true }, kinds := [], alts := [], laidByText := true, laidKinds := [.data, .data, .data, .data, .sentinel, .sentinel, .sentinel, .sentinel, .sentinel, .data, .data, .data, .data, .data, .widerDeep, .pinned, .pinned], laidTests := true, laidLooks := .later }
def FnTellCardSaid : Prop := Claim7.holds Tryz.pinned (.plain (OpenSpec.ofChange fnTellSpec)) fnTellCard

/-- THE TIED CARD OF 'laws.FnFromInt'. -/
def fnFromIntCard : Claim7 := { stood := { row := fnFromIntRow, standIns := [], harness := (true, "0d831b50ee99e6ad99b0b8dcdd33ac8720a8a642f997242ad9a53efd4548f091"), looks := true }, kinds := [], alts := [], laidByText := true, laidKinds := [.data, .data, .data, .data, .sentinel, .sentinel, .sentinel, .sentinel, .sentinel, .data, .data, .data, .data, .data, .widerDeep, .pinned, .pinned], laidTests := true, laidLooks := .later }
def FnFromIntCardSaid : Prop := Claim7.holds Tryz.pinned (.plain (OpenSpec.ofChange fnFromIntSpec)) fnFromIntCard

/-- THE SECOND FORM's CARD OF 'laws.FnTell'. -/
def fnTellUptoCard : Claim7 := { stood := { row := fnTellUptoRow, standIns := [], harness := (true, "0d831b50ee99e6ad99b0b8dcdd33ac8720a8a642f997242ad9a53efd4548f091"), looks := true }, kinds := [], alts := [], laidByText := true, laidKinds := [.data, .data, .data, .data, .sentinel, .sentinel, .sentinel, .sentinel, .sentinel, .data, .data, .data, .data, .data, .widerDeep, .pinned, .pinned], laidTests := true, laidLooks := .later }
def FnTellUptoCardSaid : Prop := Claim7.holds Tryz.pinned (.plain (OpenSpec.upto fnTellSpec)) fnTellUptoCard

/-- THE SECOND FORM's CARD OF 'laws.FnFromInt'. -/
def fnFromIntUptoCard : Claim7 := { stood := { row := fnFromIntUptoRow, standIns := [], harness := (true, "0d831b50ee99e6ad99b0b8dcdd33ac8720a8a642f997242ad9a53efd4548f091"), looks := true }, kinds := [], alts := [], laidByText := true, laidKinds := [.data, .data, .data, .data, .sentinel, .sentinel, .sentinel, .sentinel, .sentinel, .data, .data, .data, .data, .data, .widerDeep, .pinned, .pinned], laidTests := true, laidLooks := .later }
def FnFromIntUptoCardSaid : Prop := Claim7.holds Tryz.pinned (.plain (OpenSpec.upto fnFromIntSpec)) fnFromIntUptoCard
end Rows
end Go.Proofs.YtkfephcllglkkaaGreatDoor
