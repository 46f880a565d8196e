/-
  DERIVED. GIVEN WITH THE SEED: THE CARDS: each row of YbulkhyeDoorRows.lean that lists a variable, with what it lists TIED to the program's text (the seventh form; the later family's looks); each row that meets fmt, with fmt's text TOLD by the authors' own Lean function (tested against real Go, not proved from fmt's source: count such statements apart). THE CARD IS WHAT COUNTS. Prove the row's statement (the work); the ties are given (YbulkhyeDoorTie.lean); close each card by the builder's one call (the guide's Derived/Test/ToyasCard.lean, 'card_holds'). Laid BY PROGRAM, IN A SANDBOX (cutbox-door.mjs). By AI agents, Wed Nov 11 2026. No macro, syntax, notation, axiom, sorry.
-/
import Derived.Test.YbulkhyeDoorRows
import GoSem.ClaimSeven
namespace Go.Proofs.YbulkhyeDoor
namespace Rows

/-- THE TIED CARD OF 'store.LawS0433CRoundTrip'. -/
def lawS0433CRoundTripCard : Claim7 := { stood := { row := lawS0433CRoundTripRow, standIns := [], harness := (true, "5b74355baeba027a0f4d0867bcaa171b24ad12bb25be5ec14c026898084ef81f"), looks := false }, kinds := [], alts := [], laidByText := true, laidKinds := [.sentinel], laidTests := true, laidLooks := .later }
def LawS0433CRoundTripCardSaid : Prop := Claim7.holds Ybad.pinned (.plain (OpenSpec.ofChange lawS0433CRoundTripSpec)) lawS0433CRoundTripCard

/-- THE TIED CARD OF 'store.LawS0433CModel'. -/
def lawS0433CModelCard : Claim7 := { stood := { row := lawS0433CModelRow, standIns := [], harness := (true, "5b74355baeba027a0f4d0867bcaa171b24ad12bb25be5ec14c026898084ef81f"), looks := false }, kinds := [], alts := [], laidByText := true, laidKinds := [.sentinel], laidTests := true, laidLooks := .later }
def LawS0433CModelCardSaid : Prop := Claim7.holds Ybad.pinned (.plain (OpenSpec.ofChange lawS0433CModelSpec)) lawS0433CModelCard

/-- THE TIED CARD OF 'store.LawS0433CPicked'. -/
def lawS0433CPickedCard : Claim7 := { stood := { row := lawS0433CPickedRow, standIns := [], harness := (true, "5b74355baeba027a0f4d0867bcaa171b24ad12bb25be5ec14c026898084ef81f"), looks := false }, kinds := [], alts := [], laidByText := true, laidKinds := [.sentinel], laidTests := true, laidLooks := .later }
def LawS0433CPickedCardSaid : Prop := Claim7.holds Ybad.pinned (.plain (OpenSpec.ofChange lawS0433CPickedSpec)) lawS0433CPickedCard
end Rows
end Go.Proofs.YbulkhyeDoor
