/-
  DERIVED. GIVEN WITH THE SEED: THE CARDS: each row of YtgidfhpcobpinaaDoorRows.lean that lists a variable, with what it lists TIED to the program's text (the seventh form; the later family's looks); each row that meets fmt, with fmt's text TOLD by the authors' own Lean function (tested against real Go, not proved from fmt's source: count such statements apart). THE CARD IS WHAT COUNTS. Prove the row's statement (the work); the ties are given (YtgidfhpcobpinaaDoorTie.lean); close each card by the builder's one call (the guide's Derived/Test/ToyasCard.lean, 'card_holds'). Laid BY PROGRAM, IN A SANDBOX (cutbox-door.mjs). By AI agents, Wed Nov 11 2026. No macro, syntax, notation, axiom, sorry.
-/
import Derived.Test.YtgidfhpcobpinaaDoorRows
import GoSem.ClaimSeven
namespace Go.Proofs.YtgidfhpcobpinaaDoor
namespace Rows

/-- THE TIED CARD OF 'laws.FnPartChars'. -/
def fnPartCharsCard : Claim7 := { stood := { row := fnPartCharsRow, standIns := [], harness := (true, "9fb496133766843df8fef929f87369b74f5d89a2300d0dff3fd5da9a7dcd7237"), looks := true }, kinds := [], alts := [], laidByText := true, laidKinds := [.data, .data, .data, .data, .pinned], laidTests := true, laidLooks := .later }
def FnPartCharsCardSaid : Prop := Claim7.holds Tryd.pinned (.plain (OpenSpec.ofChange fnPartCharsSpec)) fnPartCharsCard

/-- THE TIED CARD OF 'laws.FnGroupTokens'. -/
def fnGroupTokensCard : Claim7 := { stood := { row := fnGroupTokensRow, standIns := [], harness := (true, "9fb496133766843df8fef929f87369b74f5d89a2300d0dff3fd5da9a7dcd7237"), looks := true }, kinds := [], alts := [], laidByText := true, laidKinds := [.sentinel, .sentinel, .sentinel], laidTests := true, laidLooks := .later }
def FnGroupTokensCardSaid : Prop := Claim7.holds Tryd.pinned (.plain (OpenSpec.ofChange fnGroupTokensSpec)) fnGroupTokensCard

/-- THE SECOND FORM's CARD OF 'laws.FnPartChars'. -/
def fnPartCharsUptoCard : Claim7 := { stood := { row := fnPartCharsUptoRow, standIns := [], harness := (true, "9fb496133766843df8fef929f87369b74f5d89a2300d0dff3fd5da9a7dcd7237"), looks := true }, kinds := [], alts := [], laidByText := true, laidKinds := [.data, .data, .data, .data, .pinned], laidTests := true, laidLooks := .later }
def FnPartCharsUptoCardSaid : Prop := Claim7.holds Tryd.pinned (.plain (OpenSpec.upto fnPartCharsSpec)) fnPartCharsUptoCard

/-- THE SECOND FORM's CARD OF 'laws.FnGroupTokens'. -/
def fnGroupTokensUptoCard : Claim7 := { stood := { row := fnGroupTokensUptoRow, standIns := [], harness := (true, "9fb496133766843df8fef929f87369b74f5d89a2300d0dff3fd5da9a7dcd7237"), looks := true }, kinds := [], alts := [], laidByText := true, laidKinds := [.sentinel, .sentinel, .sentinel], laidTests := true, laidLooks := .later }
def FnGroupTokensUptoCardSaid : Prop := Claim7.holds Tryd.pinned (.plain (OpenSpec.upto fnGroupTokensSpec)) fnGroupTokensUptoCard
end Rows
end Go.Proofs.YtgidfhpcobpinaaDoor
