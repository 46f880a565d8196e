/-
  No cell of these rows narrows 'for every input' (looked for: loops, veiled, ifaces, maps, wideKeys, modest, calm, conditions, laid).
  DERIVED. THE GIVEN ROWS OF THIS SEAT. 2 by the template 'for every input the law returns true; each argument reads behind the call as it read before'; 0 by the template 'total and deterministic' (their statements: YbulkhxqFmtTotals.lean).
  GIVEN WITH THE SEED: the statements are not yours to turn. If you find one false, say at which input.
  Laid BY PROGRAM, IN A SANDBOX (cutbox-rows.mjs): the forced cells as the released guide's own fill.sh prints them over the translation 612f6a3ec711537d… (all of the seat's roots in one cut). By AI agents, Wed Nov 11 2026. No macro, syntax, notation, axiom, sorry.
-/
import Derived.Test.YbulkhxqFmtChecked
import GoSem.Claim
import GoSem.ClaimJoined
import GoSem.ClaimMapViews
import Derived.JoinedTies
import Derived.KernelRfl
namespace Go.Proofs.YbulkhxqFmt
/- THE CELL 'sum', in the pinned program and in every row, IS THE sha256 OF THE DUMP (.gsa) THAT YbulkhxqFmtProg.lean LOADS. Nothing in Lean hashes anything: it is a label: what it is worth is what the hold of that sum in a sandbox is worth. -/
noncomputable def Ybaf.pinned : Pinned := { name := "ybulkhxqfmt", sum := "612f6a3ec711537d115ca3baf60ce995fb20b3b51b218f446752b1cccb4f477f", checked := Ybaf.checked }
namespace Rows
def none {H : Type} : Left H := { results := [], args := [] }

/-- 'groups.LawS0432CFresh': WHATEVER THE INPUT: true; the input reads as it did. -/
def lawS0432CFreshSpec : ChangeSpec := { name := "lawS0432CFresh", fn := fun _ => fun
  | [d1, d2, d3, d4] => { results := [.lit (.bool true)], args := [d1, d2, d3, d4] }
  | _ => none }
def lawS0432CFreshRow : OpenClaim := { program := "ybulkhxqfmt", sum := "612f6a3ec711537d115ca3baf60ce995fb20b3b51b218f446752b1cccb4f477f", func := "example.com/remora/remora/groups.LawS0432CFresh", spec := "lawS0432CFresh", stops := ["fmt.Sprintf"], inPlace := ["internal/abi.NoEscape", "fmt.Fprintf", "fmt.Sprintf"], unfollowed := true, recurses := true, apart := false }
/-- NO THEOREM (fmt's text is open here; it may be false): for the released tool's asking of the row's closed facts alone. THE STATEMENT IS 'LawS0432CFreshToldSaid' (YbulkhxqFmtCards.lean). -/
def LawS0432CFreshFormAsk : Prop := lawS0432CFreshRow.holds Ybaf.pinned (OpenSpec.ofChange lawS0432CFreshSpec)

/-- ITS FALSE NEIGHBOUR: 'it returns false'. Refute it at one input. -/
def lawS0432CFreshWrong : ChangeSpec := { name := "lawS0432CFresh", fn := fun _ => fun
  | [d1, d2, d3, d4] => { results := [.lit (.bool false)], args := [d1, d2, d3, d4] }
  | _ => none }
def LawS0432CFreshWrongFormAsk : Prop := lawS0432CFreshRow.holds Ybaf.pinned (OpenSpec.ofChange lawS0432CFreshWrong)

/-- 'groups.LawS0432CExisting': WHATEVER THE INPUT: true; the input reads as it did. -/
def lawS0432CExistingSpec : ChangeSpec := { name := "lawS0432CExisting", fn := fun _ => fun
  | [d1, d2, d3, d4, d5] => { results := [.lit (.bool true)], args := [d1, d2, d3, d4, d5] }
  | _ => none }
def lawS0432CExistingRow : OpenClaim := { program := "ybulkhxqfmt", sum := "612f6a3ec711537d115ca3baf60ce995fb20b3b51b218f446752b1cccb4f477f", func := "example.com/remora/remora/groups.LawS0432CExisting", spec := "lawS0432CExisting", stops := ["fmt.Sprintf"], inPlace := ["internal/abi.NoEscape", "fmt.Fprintf", "fmt.Sprintf"], unfollowed := true, recurses := true, apart := false }
/-- NO THEOREM (fmt's text is open here; it may be false): for the released tool's asking of the row's closed facts alone. THE STATEMENT IS 'LawS0432CExistingToldSaid' (YbulkhxqFmtCards.lean). -/
def LawS0432CExistingFormAsk : Prop := lawS0432CExistingRow.holds Ybaf.pinned (OpenSpec.ofChange lawS0432CExistingSpec)

/-- ITS FALSE NEIGHBOUR: 'it returns false'. Refute it at one input. -/
def lawS0432CExistingWrong : ChangeSpec := { name := "lawS0432CExisting", fn := fun _ => fun
  | [d1, d2, d3, d4, d5] => { results := [.lit (.bool false)], args := [d1, d2, d3, d4, d5] }
  | _ => none }
def LawS0432CExistingWrongFormAsk : Prop := lawS0432CExistingRow.holds Ybaf.pinned (OpenSpec.ofChange lawS0432CExistingWrong)

end Rows
end Go.Proofs.YbulkhxqFmt
