/-
  NARROWER THAN 'FOR EVERY INPUT', by the rows' own cells (each row's printed sentence says how): LawS0433CRoundTrip: laid · LawS0433CModel: laid · LawS0433CPicked: laid.
  DERIVED. THE GIVEN ROWS OF THIS SEAT. 3 by the template 'for every input the law returns true; each argument reads behind the call as it read before'; 0 by the template 'total and deterministic' (their statements: YbulkhyeDoorTotals.lean).
  GIVEN WITH THE SEED: the statements are not yours to turn. If you find one false, say at which input.
  Laid BY PROGRAM, IN A SANDBOX (cutbox-rows.mjs): the forced cells as the released guide's own fill.sh prints them over the translation 99959ef3ad0b2bd4… (all of the seat's roots in one cut). By AI agents, Wed Nov 11 2026. No macro, syntax, notation, axiom, sorry.
-/
import Derived.Test.YbulkhyeDoorChecked
import GoSem.Claim
import GoSem.ClaimJoined
import GoSem.ClaimMapViews
import Derived.JoinedTies
import Derived.KernelRfl
namespace Go.Proofs.YbulkhyeDoor
/- THE CELL 'sum', in the pinned program and in every row, IS THE sha256 OF THE DUMP (.gsa) THAT YbulkhyeDoorProg.lean LOADS. Nothing in Lean hashes anything: it is a label: what it is worth is what the hold of that sum in a sandbox is worth. -/
noncomputable def Ybad.pinned : Pinned := { name := "ybulkhyedoor", sum := "99959ef3ad0b2bd49e2d6bf66fafd972980820d7fba7f2eef50482ac400dd07d", checked := Ybad.checked }
namespace Rows
def none {H : Type} : Left H := { results := [], args := [] }

/- WHAT THE LISTED PACKAGE-LEVEL VARIABLES READ AS WHEN THE CALL BEGINS. Each datum BY PROGRAM (the guide's laid-datum.mjs) off the statement by which the dump's own 'gosem.cut.vars' lays the variable. In a bare row this is a premise. The card (YbulkhyeDoorCards.lean) ties it to the program's text. -/
def laid_encoding_hex_ErrLength {H : Type} : DataW H := .iface "*errors.errorString" (.ptr (.agg [.lit (.string [101, 110, 99, 111, 100, 105, 110, 103, 47, 104, 101, 120, 58, 32, 111, 100, 100, 32, 108, 101, 110, 103, 116, 104, 32, 104, 101, 120, 32, 115, 116, 114, 105, 110, 103])]))

/-- 'store.LawS0433CRoundTrip': WHATEVER THE INPUT: true; the input reads as it did. -/
def lawS0433CRoundTripSpec : ChangeSpec := { name := "lawS0433CRoundTrip", fn := fun _ => fun
  | [d] => { results := [.lit (.bool true)], args := [d] }
  | _ => none }
def lawS0433CRoundTripRow : OpenClaim := { program := "ybulkhyedoor", sum := "99959ef3ad0b2bd49e2d6bf66fafd972980820d7fba7f2eef50482ac400dd07d", func := "example.com/ledgerline/ledgerline/store.LawS0433CRoundTrip", spec := "lawS0433CRoundTrip", named := ["encoding/hex.ErrLength"], apart := false, laid := [("encoding/hex.ErrLength", laid_encoding_hex_ErrLength)] }
def LawS0433CRoundTripSaid : Prop := lawS0433CRoundTripRow.holds Ybad.pinned (OpenSpec.ofChange lawS0433CRoundTripSpec)

/-- ITS FALSE NEIGHBOUR: 'it returns false'. Refute it at one input. -/
def lawS0433CRoundTripWrong : ChangeSpec := { name := "lawS0433CRoundTrip", fn := fun _ => fun
  | [d] => { results := [.lit (.bool false)], args := [d] }
  | _ => none }
def LawS0433CRoundTripWrongFalsely : Prop := lawS0433CRoundTripRow.holds Ybad.pinned (OpenSpec.ofChange lawS0433CRoundTripWrong)

/-- 'store.LawS0433CModel': WHATEVER THE INPUT: true; the input reads as it did. -/
def lawS0433CModelSpec : ChangeSpec := { name := "lawS0433CModel", fn := fun _ => fun
  | [d] => { results := [.lit (.bool true)], args := [d] }
  | _ => none }
def lawS0433CModelRow : OpenClaim := { program := "ybulkhyedoor", sum := "99959ef3ad0b2bd49e2d6bf66fafd972980820d7fba7f2eef50482ac400dd07d", func := "example.com/ledgerline/ledgerline/store.LawS0433CModel", spec := "lawS0433CModel", named := ["encoding/hex.ErrLength"], apart := false, laid := [("encoding/hex.ErrLength", laid_encoding_hex_ErrLength)] }
def LawS0433CModelSaid : Prop := lawS0433CModelRow.holds Ybad.pinned (OpenSpec.ofChange lawS0433CModelSpec)

/-- ITS FALSE NEIGHBOUR: 'it returns false'. Refute it at one input. -/
def lawS0433CModelWrong : ChangeSpec := { name := "lawS0433CModel", fn := fun _ => fun
  | [d] => { results := [.lit (.bool false)], args := [d] }
  | _ => none }
def LawS0433CModelWrongFalsely : Prop := lawS0433CModelRow.holds Ybad.pinned (OpenSpec.ofChange lawS0433CModelWrong)

/-- 'store.LawS0433CPicked': WHATEVER THE INPUT: true; the input reads as it did. -/
def lawS0433CPickedSpec : ChangeSpec := { name := "lawS0433CPicked", fn := fun _ => fun
  | [d1, d2] => { results := [.lit (.bool true)], args := [d1, d2] }
  | _ => none }
def lawS0433CPickedRow : OpenClaim := { program := "ybulkhyedoor", sum := "99959ef3ad0b2bd49e2d6bf66fafd972980820d7fba7f2eef50482ac400dd07d", func := "example.com/ledgerline/ledgerline/store.LawS0433CPicked", spec := "lawS0433CPicked", named := ["encoding/hex.ErrLength"], apart := false, laid := [("encoding/hex.ErrLength", laid_encoding_hex_ErrLength)] }
def LawS0433CPickedSaid : Prop := lawS0433CPickedRow.holds Ybad.pinned (OpenSpec.ofChange lawS0433CPickedSpec)

/-- ITS FALSE NEIGHBOUR: 'it returns false'. Refute it at one input. -/
def lawS0433CPickedWrong : ChangeSpec := { name := "lawS0433CPicked", fn := fun _ => fun
  | [d1, d2] => { results := [.lit (.bool false)], args := [d1, d2] }
  | _ => none }
def LawS0433CPickedWrongFalsely : Prop := lawS0433CPickedRow.holds Ybad.pinned (OpenSpec.ofChange lawS0433CPickedWrong)

end Rows
end Go.Proofs.YbulkhyeDoor
