/-
  No cell of these rows narrows 'for every input' (looked for: loops, veiled, ifaces, maps, wideKeys, modest, calm, conditions, laid).
  DERIVED. THE GIVEN ROWS OF THIS SEAT. 1 by the template 'for every input the law returns true; each argument reads behind the call as it read before'; 0 by the template 'total and deterministic' (their statements: YbulkhzuTotals.lean).
  GIVEN WITH THE SEED: the statements are not yours to turn. If you find one false, say at which input.
  Laid BY PROGRAM, IN A SANDBOX (cutbox-rows.mjs): the forced cells as the released guide's own fill.sh prints them over the translation 9142cd5294ecfc05… (all of the seat's roots in one cut). By AI agents, Wed Nov 11 2026. No macro, syntax, notation, axiom, sorry.
-/
import Derived.Test.YbulkhzuChecked
import GoSem.Claim
import GoSem.ClaimJoined
import GoSem.ClaimMapViews
import Derived.JoinedTies
import Derived.KernelRfl
namespace Go.Proofs.Ybulkhzu
/- THE CELL 'sum', in the pinned program and in every row, IS THE sha256 OF THE DUMP (.gsa) THAT YbulkhzuProg.lean LOADS. Nothing in Lean hashes anything: it is a label: what it is worth is what the hold of that sum in a sandbox is worth. -/
noncomputable def Yba.pinned : Pinned := { name := "ybulkhzu", sum := "9142cd5294ecfc0503f2012a2af58fe93416b0d23ad57c1b2e58fe12329905cc", checked := Yba.checked }
namespace Rows
def none {H : Type} : Left H := { results := [], args := [] }

/-- 'pyre.LawS0436BShape': WHATEVER THE INPUT: true; the input reads as it did. -/
def lawS0436BShapeSpec : ChangeSpec := { name := "lawS0436BShape", fn := fun _ => fun
  | [d1, d2, d3] => { results := [.lit (.bool true)], args := [d1, d2, d3] }
  | _ => none }
def lawS0436BShapeRow : OpenClaim := { program := "ybulkhzu", sum := "9142cd5294ecfc0503f2012a2af58fe93416b0d23ad57c1b2e58fe12329905cc", func := "example.com/hushpath/hushpath/internal/pyre.LawS0436BShape", spec := "lawS0436BShape", apart := false }
def LawS0436BShapeSaid : Prop := lawS0436BShapeRow.holds Yba.pinned (OpenSpec.ofChange lawS0436BShapeSpec)

/-- ITS FALSE NEIGHBOUR: 'it returns false'. Refute it at one input. -/
def lawS0436BShapeWrong : ChangeSpec := { name := "lawS0436BShape", fn := fun _ => fun
  | [d1, d2, d3] => { results := [.lit (.bool false)], args := [d1, d2, d3] }
  | _ => none }
def LawS0436BShapeWrongFalsely : Prop := lawS0436BShapeRow.holds Yba.pinned (OpenSpec.ofChange lawS0436BShapeWrong)

end Rows
end Go.Proofs.Ybulkhzu
