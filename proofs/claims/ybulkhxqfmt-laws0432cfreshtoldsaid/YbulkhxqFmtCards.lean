/-
  DERIVED. GIVEN WITH THE SEED: THE CARDS: each row of YbulkhxqFmtRows.lean that lists a variable, with what it lists TIED to the program's text (the seventh form; the later family's looks); each row that meets fmt, with fmt's text TOLD by the authors' own Lean function (tested against real Go, not proved from fmt's source: count such statements apart). THE CARD IS WHAT COUNTS. Prove the row's statement (the work); the ties are given (YbulkhxqFmtTie.lean); close each card by the builder's one call (the guide's Derived/Test/ToyasCard.lean, 'card_holds'). Laid BY PROGRAM, IN A SANDBOX (cutbox-door.mjs). By AI agents, Wed Nov 11 2026. No macro, syntax, notation, axiom, sorry.
-/
import Derived.Test.YbulkhxqFmtRows
import GoSem.ClaimSeven
namespace Go.Proofs.YbulkhxqFmt
namespace Rows

/-- THE TOLD CARD OF 'groups.LawS0432CFresh'. -/
def lawS0432CFreshCard : Claim7 := { stood := { row := lawS0432CFreshRow, standIns := [], harness := (true, "4fae50b4dd4ca17d46ba35a0b6a8b55e65cde3a0a162753b975d8e7ac868d05e"), looks := false }, told := true, goes := false }
def LawS0432CFreshToldSaid : Prop := Claim7.holds Ybaf.pinned (.plain (OpenSpec.ofChange lawS0432CFreshSpec)) lawS0432CFreshCard
/-- ITS FALSE NEIGHBOUR. Refute it at one input. -/
def LawS0432CFreshToldWrongFalsely : Prop := Claim7.holds Ybaf.pinned (.plain (OpenSpec.ofChange lawS0432CFreshWrong)) lawS0432CFreshCard

/-- THE TOLD CARD OF 'groups.LawS0432CExisting'. -/
def lawS0432CExistingCard : Claim7 := { stood := { row := lawS0432CExistingRow, standIns := [], harness := (true, "4fae50b4dd4ca17d46ba35a0b6a8b55e65cde3a0a162753b975d8e7ac868d05e"), looks := false }, told := true, goes := false }
def LawS0432CExistingToldSaid : Prop := Claim7.holds Ybaf.pinned (.plain (OpenSpec.ofChange lawS0432CExistingSpec)) lawS0432CExistingCard
/-- ITS FALSE NEIGHBOUR. Refute it at one input. -/
def LawS0432CExistingToldWrongFalsely : Prop := Claim7.holds Ybaf.pinned (.plain (OpenSpec.ofChange lawS0432CExistingWrong)) lawS0432CExistingCard
end Rows
end Go.Proofs.YbulkhxqFmt
