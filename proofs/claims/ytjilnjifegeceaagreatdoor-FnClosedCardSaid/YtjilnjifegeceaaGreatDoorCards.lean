/-
  DERIVED. GIVEN WITH THE SEED: THE CARDS: each row of YtjilnjifegeceaaGreatDoorRows.lean that lists a variable, with what it lists TIED to the program's text (the seventh form; the later family's looks); each row that meets fmt, with fmt's text TOLD by the authors' own Lean function (tested against real Go, not proved from fmt's source: count such statements apart). THE CARD IS WHAT COUNTS. Prove the row's statement (the work); the ties are given (YtjilnjifegeceaaGreatDoorTie.lean); close each card by the builder's one call (the guide's Derived/Test/ToyasCard.lean, 'card_holds'). Laid BY PROGRAM, IN A SANDBOX (cutbox-door.mjs). By AI agents, Wed Nov 11 2026. No macro, syntax, notation, axiom, sorry.
-/
import Derived.Test.YtjilnjifegeceaaGreatDoorRows
import GoSem.ClaimSeven
namespace Go.Proofs.YtjilnjifegeceaaGreatDoor
namespace Rows

/-- THE TIED CARD OF 'laws.FnFinds'. -/
def fnFindsCard : Claim7 := { stood := { row := fnFindsRow, standIns := [], harness := (true, "7d2908aaae898860b11fe945ce9da0fa5901d79a6419ece5c69aa3815f6f8806"), looks := true }, kinds := [], alts := [], laidByText := true, laidKinds := [.data, .data, .data, .data, .pinned, .pinned, .pinned], laidTests := true, laidLooks := .later }
def FnFindsCardSaid : Prop := Claim7.holds Tryz.pinned (.plain (OpenSpec.ofChange fnFindsSpec)) fnFindsCard

/-- THE TIED CARD OF 'laws.FnInfers'. -/
def fnInfersCard : Claim7 := { stood := { row := fnInfersRow, standIns := [], harness := (true, "7d2908aaae898860b11fe945ce9da0fa5901d79a6419ece5c69aa3815f6f8806"), looks := true }, kinds := [], alts := [], laidByText := true, laidKinds := [.data, .data, .data, .data, .pinned, .pinned, .pinned], laidTests := true, laidLooks := .later }
def FnInfersCardSaid : Prop := Claim7.holds Tryz.pinned (.plain (OpenSpec.ofChange fnInfersSpec)) fnInfersCard

/-- THE TIED CARD OF 'laws.FnMatches'. -/
def fnMatchesCard : Claim7 := { stood := { row := fnMatchesRow, standIns := [], harness := (true, "7d2908aaae898860b11fe945ce9da0fa5901d79a6419ece5c69aa3815f6f8806"), looks := true }, kinds := [], alts := [], laidByText := true, laidKinds := [.data, .data, .data, .data, .pinned, .pinned, .pinned], laidTests := true, laidLooks := .later }
def FnMatchesCardSaid : Prop := Claim7.holds Tryz.pinned (.plain (OpenSpec.ofChange fnMatchesSpec)) fnMatchesCard

/-- THE TIED CARD OF 'laws.FnClosed'. -/
def fnClosedCard : Claim7 := { stood := { row := fnClosedRow, standIns := [], harness := (true, "7d2908aaae898860b11fe945ce9da0fa5901d79a6419ece5c69aa3815f6f8806"), looks := true }, kinds := [], alts := [], laidByText := true, laidKinds := [.data, .data, .data, .data, .pinned, .pinned, .pinned], laidTests := true, laidLooks := .later }
def FnClosedCardSaid : Prop := Claim7.holds Tryz.pinned (.plain (OpenSpec.ofChange fnClosedSpec)) fnClosedCard

/-- THE SECOND FORM's CARD OF 'laws.FnFinds'. -/
def fnFindsUptoCard : Claim7 := { stood := { row := fnFindsUptoRow, standIns := [], harness := (true, "7d2908aaae898860b11fe945ce9da0fa5901d79a6419ece5c69aa3815f6f8806"), looks := true }, kinds := [], alts := [], laidByText := true, laidKinds := [.data, .data, .data, .data, .pinned, .pinned, .pinned], laidTests := true, laidLooks := .later }
def FnFindsUptoCardSaid : Prop := Claim7.holds Tryz.pinned (.plain (OpenSpec.upto fnFindsSpec)) fnFindsUptoCard

/-- THE SECOND FORM's CARD OF 'laws.FnInfers'. -/
def fnInfersUptoCard : Claim7 := { stood := { row := fnInfersUptoRow, standIns := [], harness := (true, "7d2908aaae898860b11fe945ce9da0fa5901d79a6419ece5c69aa3815f6f8806"), looks := true }, kinds := [], alts := [], laidByText := true, laidKinds := [.data, .data, .data, .data, .pinned, .pinned, .pinned], laidTests := true, laidLooks := .later }
def FnInfersUptoCardSaid : Prop := Claim7.holds Tryz.pinned (.plain (OpenSpec.upto fnInfersSpec)) fnInfersUptoCard

/-- THE SECOND FORM's CARD OF 'laws.FnMatches'. -/
def fnMatchesUptoCard : Claim7 := { stood := { row := fnMatchesUptoRow, standIns := [], harness := (true, "7d2908aaae898860b11fe945ce9da0fa5901d79a6419ece5c69aa3815f6f8806"), looks := true }, kinds := [], alts := [], laidByText := true, laidKinds := [.data, .data, .data, .data, .pinned, .pinned, .pinned], laidTests := true, laidLooks := .later }
def FnMatchesUptoCardSaid : Prop := Claim7.holds Tryz.pinned (.plain (OpenSpec.upto fnMatchesSpec)) fnMatchesUptoCard

/-- THE SECOND FORM's CARD OF 'laws.FnClosed'. -/
def fnClosedUptoCard : Claim7 := { stood := { row := fnClosedUptoRow, standIns := [], harness := (true, "7d2908aaae898860b11fe945ce9da0fa5901d79a6419ece5c69aa3815f6f8806"), looks := true }, kinds := [], alts := [], laidByText := true, laidKinds := [.data, .data, .data, .data, .pinned, .pinned, .pinned], laidTests := true, laidLooks := .later }
def FnClosedUptoCardSaid : Prop := Claim7.holds Tryz.pinned (.plain (OpenSpec.upto fnClosedSpec)) fnClosedUptoCard
end Rows
end Go.Proofs.YtjilnjifegeceaaGreatDoor
