/-
  DERIVED. GIVEN WITH THE SEED: THE CARDS: each row of YtmmcjnfgcaefpaaGreatDoorRows.lean that lists a variable, with what it lists TIED to the program's text (the seventh form; the later family's looks); each row that meets fmt, with fmt's text TOLD by the authors' own Lean function (tested against real Go, not proved from fmt's source: count such statements apart). THE CARD IS WHAT COUNTS. Prove the row's statement (the work); the ties are given (YtmmcjnfgcaefpaaGreatDoorTie.lean); close each card by the builder's one call (the guide's Derived/Test/ToyasCard.lean, 'card_holds'). Laid BY PROGRAM, IN A SANDBOX (cutbox-door.mjs). By AI agents, Wed Nov 11 2026. No macro, syntax, notation, axiom, sorry.
-/
import Derived.Test.YtmmcjnfgcaefpaaGreatDoorRows
import GoSem.ClaimSeven
namespace Go.Proofs.YtmmcjnfgcaefpaaGreatDoor
namespace Rows

/-- THE TIED CARD OF 'laws.FnIdentical'. -/
def fnIdenticalCard : Claim7 := { stood := { row := fnIdenticalRow, standIns := [], harness := (true, "9c08b649c446a10a272f05e67097132a4ceb4dfe4d4679c91d534d1cf755860d"), looks := true }, kinds := [], alts := [], laidByText := true, laidKinds := [.data, .data, .data, .data, .pinned, .pinned, .pinned], laidTests := true, laidLooks := .later }
def FnIdenticalCardSaid : Prop := Claim7.holds Tryz.pinned (.plain (OpenSpec.ofChange fnIdenticalSpec)) fnIdenticalCard

/-- THE SECOND FORM's CARD OF 'laws.FnIdentical'. -/
def fnIdenticalUptoCard : Claim7 := { stood := { row := fnIdenticalUptoRow, standIns := [], harness := (true, "9c08b649c446a10a272f05e67097132a4ceb4dfe4d4679c91d534d1cf755860d"), looks := true }, kinds := [], alts := [], laidByText := true, laidKinds := [.data, .data, .data, .data, .pinned, .pinned, .pinned], laidTests := true, laidLooks := .later }
def FnIdenticalUptoCardSaid : Prop := Claim7.holds Tryz.pinned (.plain (OpenSpec.upto fnIdenticalSpec)) fnIdenticalUptoCard
end Rows
end Go.Proofs.YtmmcjnfgcaefpaaGreatDoor
