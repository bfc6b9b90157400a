/-
  DERIVED. GIVEN WITH THE SEED: THE CARDS: each row of YtjdfcokeejmmeaaGreatDoorRows.lean that lists a variable, with what it lists TIED to the program's text (the seventh form; the later family's looks); each row that meets fmt, with fmt's text TOLD by the authors' own Lean function (tested against real Go, not proved from fmt's source: count such statements apart). THE CARD IS WHAT COUNTS. Prove the row's statement (the work); the ties are given (YtjdfcokeejmmeaaGreatDoorTie.lean); close each card by the builder's one call (the guide's Derived/Test/ToyasCard.lean, 'card_holds'). Laid BY PROGRAM, IN A SANDBOX (cutbox-door.mjs). By AI agents, Wed Nov 11 2026. No macro, syntax, notation, axiom, sorry.
-/
import Derived.Test.YtjdfcokeejmmeaaGreatDoorRows
import GoSem.ClaimSeven
namespace Go.Proofs.YtjdfcokeejmmeaaGreatDoor
namespace Rows

/-- THE TIED CARD OF 'laws.FnPathQuoted'. -/
def fnPathQuotedCard : Claim7 := { stood := { row := fnPathQuotedRow, standIns := [], harness := (true, "d60853a9d172a485c8aeb8a423d8b1aa02a63e80ca6f643f947e7b2abb36a815"), looks := true }, kinds := [], alts := [], laidByText := true, laidKinds := [.data, .data, .data, .sentinel, .sentinel, .sentinel, .sentinel, .sentinel], laidTests := true, laidLooks := .later }
def FnPathQuotedCardSaid : Prop := Claim7.holds Tryz.pinned (.plain (OpenSpec.ofChange fnPathQuotedSpec)) fnPathQuotedCard

/-- THE SECOND FORM's CARD OF 'laws.FnPathQuoted'. -/
def fnPathQuotedUptoCard : Claim7 := { stood := { row := fnPathQuotedUptoRow, standIns := [], harness := (true, "d60853a9d172a485c8aeb8a423d8b1aa02a63e80ca6f643f947e7b2abb36a815"), looks := true }, kinds := [], alts := [], laidByText := true, laidKinds := [.data, .data, .data, .sentinel, .sentinel, .sentinel, .sentinel, .sentinel], laidTests := true, laidLooks := .later }
def FnPathQuotedUptoCardSaid : Prop := Claim7.holds Tryz.pinned (.plain (OpenSpec.upto fnPathQuotedSpec)) fnPathQuotedUptoCard
end Rows
end Go.Proofs.YtjdfcokeejmmeaaGreatDoor
