/-
  DERIVED. GIVEN WITH THE SEED: THE CARDS: each row of YbulkhyeFmtRows.lean that lists a variable, with what it lists TIED to the program's text (the seventh form; the later family's looks); each row that meets fmt, with fmt's text TOLD by the authors' own Lean function (tested against real Go, not proved from fmt's source: count such statements apart). THE CARD IS WHAT COUNTS. Prove the row's statement (the work); the ties are given (YbulkhyeFmtTie.lean); close each card by the builder's one call (the guide's Derived/Test/ToyasCard.lean, 'card_holds'). Laid BY PROGRAM, IN A SANDBOX (cutbox-door.mjs). By AI agents, Wed Nov 11 2026. No macro, syntax, notation, axiom, sorry.
-/
import Derived.Test.YbulkhyeFmtRows
import GoSem.ClaimSeven
namespace Go.Proofs.YbulkhyeFmt
namespace Rows

/-- THE TOLD AND TIED CARD OF 'store.LawS0433BExact'. -/
def lawS0433BExactCard : Claim7 := { stood := { row := lawS0433BExactRow, standIns := [], harness := (true, "fbdf2b47ad498c57899b0de21abaa3b0d5a550ba86cf6463eea06b923c342222"), looks := true }, told := true, laidByText := true, laidKinds := [.data, .data, .data, .sentinel, .sentinel], laidTests := true, laidLooks := .later, goes := false }
def LawS0433BExactToldSaid : Prop := Claim7.holds Ybaf.pinned (.plain (OpenSpec.ofChange lawS0433BExactSpec)) lawS0433BExactCard
/-- ITS FALSE NEIGHBOUR. Refute it at one input. -/
def LawS0433BExactToldWrongFalsely : Prop := Claim7.holds Ybaf.pinned (.plain (OpenSpec.ofChange lawS0433BExactWrong)) lawS0433BExactCard

/-- THE TOLD AND TIED CARD OF 'store.LawS0433BShape'. -/
def lawS0433BShapeCard : Claim7 := { stood := { row := lawS0433BShapeRow, standIns := [], harness := (true, "fbdf2b47ad498c57899b0de21abaa3b0d5a550ba86cf6463eea06b923c342222"), looks := true }, told := true, laidByText := true, laidKinds := [.data, .data, .data, .sentinel, .sentinel], laidTests := true, laidLooks := .later, goes := false }
def LawS0433BShapeToldSaid : Prop := Claim7.holds Ybaf.pinned (.plain (OpenSpec.ofChange lawS0433BShapeSpec)) lawS0433BShapeCard
/-- ITS FALSE NEIGHBOUR. Refute it at one input. -/
def LawS0433BShapeToldWrongFalsely : Prop := Claim7.holds Ybaf.pinned (.plain (OpenSpec.ofChange lawS0433BShapeWrong)) lawS0433BShapeCard
end Rows
end Go.Proofs.YbulkhyeFmt
