/-
  DERIVED. GIVEN WITH THE SEED: THE CARDS: each row of YthcllcmnhoaniaaGreatDoorRows.lean that lists a variable, with what it lists TIED to the program's text (the seventh form; the later family's looks); each row that meets fmt, with fmt's text TOLD by the authors' own Lean function (tested against real Go, not proved from fmt's source: count such statements apart). THE CARD IS WHAT COUNTS. Prove the row's statement (the work); the ties are given (YthcllcmnhoaniaaGreatDoorTie.lean); close each card by the builder's one call (the guide's Derived/Test/ToyasCard.lean, 'card_holds'). Laid BY PROGRAM, IN A SANDBOX (cutbox-door.mjs). By AI agents, Wed Nov 11 2026. No macro, syntax, notation, axiom, sorry.
-/
import Derived.Test.YthcllcmnhoaniaaGreatDoorRows
import GoSem.ClaimSeven
namespace Go.Proofs.YthcllcmnhoaniaaGreatDoor
namespace Rows

/-- THE TIED CARD OF 'laws.FnItself'. -/
def fnItselfCard : Claim7 := { stood := { row := fnItselfRow, standIns := [], harness := (true, "830a97bdc1e521c870e500ccbbdcb309fd349393d0dd4e76a0356cadf318b6f0"), looks := true }, kinds := [], alts := [], laidByText := true, laidKinds := [.data, .data, .data, .data, .pinned, .pinned, .pinned], laidTests := true, laidLooks := .later }
def FnItselfCardSaid : Prop := Claim7.holds Tryz.pinned (.plain (OpenSpec.ofChange fnItselfSpec)) fnItselfCard

/-- THE SECOND FORM's CARD OF 'laws.FnItself'. -/
def fnItselfUptoCard : Claim7 := { stood := { row := fnItselfUptoRow, standIns := [], harness := (true, "830a97bdc1e521c870e500ccbbdcb309fd349393d0dd4e76a0356cadf318b6f0"), looks := true }, kinds := [], alts := [], laidByText := true, laidKinds := [.data, .data, .data, .data, .pinned, .pinned, .pinned], laidTests := true, laidLooks := .later }
def FnItselfUptoCardSaid : Prop := Claim7.holds Tryz.pinned (.plain (OpenSpec.upto fnItselfSpec)) fnItselfUptoCard
end Rows
end Go.Proofs.YthcllcmnhoaniaaGreatDoor
