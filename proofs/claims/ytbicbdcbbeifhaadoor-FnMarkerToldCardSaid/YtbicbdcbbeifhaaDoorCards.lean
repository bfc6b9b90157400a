/-
  DERIVED. GIVEN WITH THE SEED: THE CARDS: each row of YtbicbdcbbeifhaaDoorRows.lean that lists a variable, with what it lists TIED to the program's text (the seventh form; the later family's looks); each row that meets fmt, with fmt's text TOLD by the authors' own Lean function (tested against real Go, not proved from fmt's source: count such statements apart). THE CARD IS WHAT COUNTS. Prove the row's statement (the work); the ties are given (YtbicbdcbbeifhaaDoorTie.lean); close each card by the builder's one call (the guide's Derived/Test/ToyasCard.lean, 'card_holds'). Laid BY PROGRAM, IN A SANDBOX (cutbox-door.mjs). By AI agents, Wed Nov 11 2026. No macro, syntax, notation, axiom, sorry.
-/
import Derived.Test.YtbicbdcbbeifhaaDoorRows
import GoSem.ClaimSeven
namespace Go.Proofs.YtbicbdcbbeifhaaDoor
namespace Rows

/-- THE TIED CARD OF 'laws.FnMarkerTold'. -/
def fnMarkerToldCard : Claim7 := { stood := { row := fnMarkerToldRow, standIns := [], harness := (true, "8b1bd6dec057787080e7f68247d1eb95ff4163957843a90f379ac6eb8bdf81de"), looks := false }, kinds := [], alts := [], laidByText := true, laidKinds := [.data, .pinned], laidTests := true, laidLooks := .later }
def FnMarkerToldCardSaid : Prop := Claim7.holds Tryd.pinned (.plain (OpenSpec.ofChange fnMarkerToldSpec)) fnMarkerToldCard

/-- THE SECOND FORM's CARD OF 'laws.FnMarkerTold'. -/
def fnMarkerToldUptoCard : Claim7 := { stood := { row := fnMarkerToldUptoRow, standIns := [], harness := (true, "8b1bd6dec057787080e7f68247d1eb95ff4163957843a90f379ac6eb8bdf81de"), looks := false }, kinds := [], alts := [], laidByText := true, laidKinds := [.data, .pinned], laidTests := true, laidLooks := .later }
def FnMarkerToldUptoCardSaid : Prop := Claim7.holds Tryd.pinned (.plain (OpenSpec.upto fnMarkerToldSpec)) fnMarkerToldUptoCard
end Rows
end Go.Proofs.YtbicbdcbbeifhaaDoor
