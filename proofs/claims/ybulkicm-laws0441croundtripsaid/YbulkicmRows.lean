/-
  No cell of these rows narrows 'for every input' (looked for: loops, veiled, ifaces, maps, wideKeys, modest, calm, conditions, laid).
  DERIVED. THE GIVEN ROWS OF THIS SEAT. 2 by the template 'for every input the law returns true; each argument reads behind the call as it read before'; 0 by the template 'total and deterministic' (their statements: YbulkicmTotals.lean).
  GIVEN WITH THE SEED: the statements are not yours to turn. If you find one false, say at which input.
  Laid BY PROGRAM, IN A SANDBOX (cutbox-rows.mjs): the forced cells as the released guide's own fill.sh prints them over the translation 253469b87864bc00… (all of the seat's roots in one cut). By AI agents, Wed Nov 11 2026. No macro, syntax, notation, axiom, sorry.
-/
import Derived.Test.YbulkicmChecked
import GoSem.Claim
import GoSem.ClaimJoined
import GoSem.ClaimMapViews
import Derived.JoinedTies
import Derived.KernelRfl
namespace Go.Proofs.Ybulkicm
/- THE CELL 'sum', in the pinned program and in every row, IS THE sha256 OF THE DUMP (.gsa) THAT YbulkicmProg.lean LOADS. Nothing in Lean hashes anything: it is a label: what it is worth is what the hold of that sum in a sandbox is worth. -/
noncomputable def Yba.pinned : Pinned := { name := "ybulkicm", sum := "253469b87864bc00d238022a63c596791e4bb8c7e9721a6e9b94aa27f64f7301", checked := Yba.checked }
namespace Rows
def none {H : Type} : Left H := { results := [], args := [] }

/-- 'jsonscan.LawS0441CModel': WHATEVER THE INPUT: true; the input reads as it did. -/
def lawS0441CModelSpec : ChangeSpec := { name := "lawS0441CModel", fn := fun _ => fun
  | [d1, d2] => { results := [.lit (.bool true)], args := [d1, d2] }
  | _ => none }
def lawS0441CModelRow : OpenClaim := { program := "ybulkicm", sum := "253469b87864bc00d238022a63c596791e4bb8c7e9721a6e9b94aa27f64f7301", func := "example.com/fieldwright/fieldwright/internal/jsonscan.LawS0441CModel", spec := "lawS0441CModel", inPlace := ["internal/bytealg.IndexByteString"], apart := false }
def LawS0441CModelSaid : Prop := lawS0441CModelRow.holds Yba.pinned (OpenSpec.ofChange lawS0441CModelSpec)

/-- ITS FALSE NEIGHBOUR: 'it returns false'. Refute it at one input. -/
def lawS0441CModelWrong : ChangeSpec := { name := "lawS0441CModel", fn := fun _ => fun
  | [d1, d2] => { results := [.lit (.bool false)], args := [d1, d2] }
  | _ => none }
def LawS0441CModelWrongFalsely : Prop := lawS0441CModelRow.holds Yba.pinned (OpenSpec.ofChange lawS0441CModelWrong)

/-- 'jsonscan.LawS0441CRoundTrip': WHATEVER THE INPUT: true; the input reads as it did. -/
def lawS0441CRoundTripSpec : ChangeSpec := { name := "lawS0441CRoundTrip", fn := fun _ => fun
  | [d1, d2, d3, d4] => { results := [.lit (.bool true)], args := [d1, d2, d3, d4] }
  | _ => none }
def lawS0441CRoundTripRow : OpenClaim := { program := "ybulkicm", sum := "253469b87864bc00d238022a63c596791e4bb8c7e9721a6e9b94aa27f64f7301", func := "example.com/fieldwright/fieldwright/internal/jsonscan.LawS0441CRoundTrip", spec := "lawS0441CRoundTrip", apart := false }
def LawS0441CRoundTripSaid : Prop := lawS0441CRoundTripRow.holds Yba.pinned (OpenSpec.ofChange lawS0441CRoundTripSpec)

/-- ITS FALSE NEIGHBOUR: 'it returns false'. Refute it at one input. -/
def lawS0441CRoundTripWrong : ChangeSpec := { name := "lawS0441CRoundTrip", fn := fun _ => fun
  | [d1, d2, d3, d4] => { results := [.lit (.bool false)], args := [d1, d2, d3, d4] }
  | _ => none }
def LawS0441CRoundTripWrongFalsely : Prop := lawS0441CRoundTripRow.holds Yba.pinned (OpenSpec.ofChange lawS0441CRoundTripWrong)

end Rows
end Go.Proofs.Ybulkicm
