/- fmt's closed facts at this dump, and the text of equals, two hexadecimal digits at a byte. -/
import Derived.Test.YbulkhxqFmtRows
import Derived.Stop.CallBack
import Derived.Stop.FmtTextWidths
import Derived.Stop.FmtTextKit
import Derived.Stop.Texts
import Derived.Stop.JoinedTold
import GoSem.ClaimData
import Derived.WalkKit
import Derived.WalkSpells
namespace Go.Proofs.YbulkhxqFmt
open Go.Extern.Stop Go.Stop Go.Extern Go.Kit

theorem call20 (args : Array Value) (w : World) : (callFunc 20 args).run Ybaf.prog w = ((FmtStop.sprintf #[9, 98] #[9] args).run Ybaf.prog w).andThen fun v w' => .ok (.value v) w' :=
  run_callFunc_extern Ybaf.func20 (by kernel_rfl) (by kernel_rfl) (by kernel_rfl) (by kernel_rfl) args w
theorem fguard (name : String) (w : World) : (FmtStop.guard name).run Ybaf.prog w = .ok () w := by kernel_rfl
theorem fmt0 : FmtStop.printed? ⟨#[61, 37, 48, 50, 88]⟩ 1 = some [(0, 88, false)] := by kernel_rfl
theorem fmt0r (w : World) : (FmtDoors.printed ⟨#[61, 37, 48, 50, 88]⟩ 1).run Ybaf.prog w = .ok [(0, 88, false)] w := by kernel_rfl
def shape5 : List UInt8 := [6, 5, 0, 0, 0, 0, 0, 0, 0, 117, 105, 110, 116, 56]
theorem op5_88 (name : String) (x : Int) (w : World) : (FmtStop.operand name false 88 false (.iface 5 (.int .u8 x))).run Ybaf.prog w = .ok (shape5, Go.Extern.Stop.digits 8 (x % 2 ^ 64).toNat) w := by kernel_rfl

/-- WHAT fmt IS ASKED at the byte c. -/
def reading (c : Int) : List (List UInt8) := [[61, 37, 48, 50, 88], shape5, digits 8 (c % 18446744073709551616).toNat]
/-- THE TEXT: '=' and two upper-case hexadecimal digits. -/
def escT (c : Int) : List UInt8 := [61, FmtText.digit true (c.toNat / 16), FmtText.digit true (c.toNat % 16)]

theorem parse_x : (FmtText.parse [61, 37, 48, 50, 88]).map FmtText.glue = some [.lit [61], .verb { widPresent := true, wid := 2, zero := true } 88] := by rfl

theorem fmtInteger_02X : ∀ u : Fin 256, FmtText.fmtInteger { widPresent := true, wid := 2, zero := true } u.val 16 false 88 true = [FmtText.digit true (u.val / 16), FmtText.digit true (u.val % 16)] := by decide +kernel

theorem printArg_02X (wrap : Bool) (name : FmtText.Bytes) (x : Int) (h1 : 0 ≤ x) (h2 : x < 256) :
    FmtText.printArg wrap { widPresent := true, wid := 2, zero := true } 88 (.int name false (x % 18446744073709551616).toNat) = some [FmtText.digit true (x.toNat / 16), FmtText.digit true (x.toNat % 16)] := by
  have e : (x % 18446744073709551616).toNat = x.toNat := by omega
  have := fmtInteger_02X ⟨x.toNat, by omega⟩
  simp [FmtText.printArg, FmtText.scalarArg, FmtText.fits, e, this]

theorem text_x (c : Int) (h0 : 0 ≤ c) (h1 : c < 256) (hw : (Lit.int .u8 c).wf = true) : FmtText.text "fmt.Sprintf" (reading c) = some (escT c) := by
  have hi := FmtText.operand_int_at (sh := shape5) (k := .u8) rfl rfl c hw
  rw [reading, FmtText.text_sprintf_glued parse_x (FmtText.operands_cons hi FmtText.operands_nil)]
  simp [FmtText.render, escT]
  exact printArg_02X _ _ c h0 h1

/-- the told text at the byte c -/
theorem told_x (F : Interp) (c : Int) (h0 : 0 ≤ c) (h1 : c < 256) (hw : (Lit.int .u8 c).wf = true) : F.told.string "fmt.Sprintf" (reading c) 0 = escT c :=
  told_string F (text_x c h0 h1 hw) (by simp [escT])
theorem told_text (F : Interp) (c : Int) (h0 : 0 ≤ c) (h1 : c < 256) (hw : (Lit.int .u8 c).wf = true) : FmtStop.textOf (F.told "fmt.Sprintf" (reading c) 0) = ⟨(escT c).toArray⟩ := by
  have h := textOf_list F.told "fmt.Sprintf" (reading c)
  rw [told_x F c h0 h1 hw] at h
  rw [← h]
end Go.Proofs.YbulkhxqFmt
