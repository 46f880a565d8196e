/- fmt's closed facts at this dump, the text of a padded numeral, and store.segmentName. -/
import Derived.Test.YbulkhyeFmtName
import Derived.Stop.CallBack
import Derived.Stop.FmtTextWidths
import Derived.Stop.FmtTextKit
import Derived.Stop.Texts
import Derived.Stop.JoinedTold
import GoSem.ClaimData
namespace Go.Proofs.YbulkhyeFmt
open Go.Extern.Stop Go.Stop Go.Extern Go.Kit Go.RowKit

theorem call42 (args : Array Value) (w : World) : (callFunc 42 args).run Ybaf.prog w = ((FmtStop.sprintf #[9, 117] #[9] args).run Ybaf.prog w).andThen fun v w' => .ok (.value v) w' :=
  run_callFunc_extern Ybaf.func42 (by kernel_rfl) (by kernel_rfl) (by kernel_rfl) (by kernel_rfl) args w
theorem fguard (name : String) (w : World) : (FmtStop.guard name).run Ybaf.prog w = .ok () w := by kernel_rfl
theorem fmt0 : FmtStop.printed? ⟨#[37, 48, 50, 48, 100]⟩ 1 = some [(0, 100, false)] := by kernel_rfl
theorem fmt0r (w : World) : (FmtDoors.printed ⟨#[37, 48, 50, 48, 100]⟩ 1).run Ybaf.prog w = .ok [(0, 100, false)] w := by kernel_rfl
def shape2 : List UInt8 := [5, 5, 0, 0, 0, 0, 0, 0, 0, 105, 110, 116, 54, 52]
theorem op2_100 (name : String) (x : Int) (w : World) : (FmtStop.operand name false 100 false (.iface 2 (.int .i64 x))).run Ybaf.prog w = .ok (shape2, Go.Extern.Stop.digits 8 (x % 2 ^ 64).toNat) w := by kernel_rfl

/-- WHAT fmt IS ASKED at p. -/
def reading (p : Int) : List (List UInt8) := [[37, 48, 50, 48, 100], shape2, digits 8 (p % 18446744073709551616).toNat]

theorem parse_d : (FmtText.parse [37, 48, 50, 48, 100]).map FmtText.glue = some [.verb { widPresent := true, wid := 20, zero := true } 100] := by rfl

theorem text_d (p : Int) (h0 : -9223372036854775808 ≤ p) (h1 : p ≤ 9223372036854775807) (hw : (Lit.int .i64 p).wf = true) : FmtText.text "fmt.Sprintf" (reading p) = some (sign20 p) := by
  have hi := FmtText.operand_int_at (sh := shape2) (k := .i64) rfl rfl p hw
  rw [reading, FmtText.text_sprintf_glued parse_d (FmtText.operands_cons hi FmtText.operands_nil)]
  simp [FmtText.render, sign20]
  exact FmtText.printArg_d_zero_signed _ _ _ p (by omega) (by omega)

theorem told_text (F : Interp) (p : Int) (h0 : -9223372036854775808 ≤ p) (h1 : p ≤ 9223372036854775807) (hw : (Lit.int .i64 p).wf = true) : FmtStop.textOf (F.told "fmt.Sprintf" (reading p) 0) = ⟨(sign20 p).toArray⟩ := by
  have h := textOf_list F.told "fmt.Sprintf" (reading p)
  rw [told_string F (text_d p h0 h1 hw) (by rw [sign20_length h0 h1]; decide)] at h
  rw [← h]

theorem wf_i64 {p : Int} (h0 : -9223372036854775808 ≤ p) (h1 : p ≤ 9223372036854775807) : (Lit.int .i64 p).wf = true := by
  simp [Lit.wf, IntKind.min, IntKind.max, IntKind.signed, IntKind.bits]
  omega

set_option maxHeartbeats 1000000 in
set_option maxRecDepth 100000 in
theorem segmentName_any (F : Interp) (p : Int) (h0 : -9223372036854775808 ≤ p) (h1 : p ≤ 9223372036854775807) (w : World) (hF : F.told.answers w.tape) :
    Calls Ybaf.prog 28 #[.int .i64 p] w fun e w' => e = .returned (.string (nameOf p)) ∧ Below w.heap.size w w' := by
  have hF' := answers_open hF
  have k1 := call42
  have k2 := fguard
  have k3 := fmt0
  have k4 := fmt0r
  have k5 := op2_100
  have HN : Hid (nameOf p = ⟨(sign20 p).toArray⟩ ++ ⟨#[46, 110, 100, 106, 115, 111, 110]⟩) := name_add rfl
  obtain ⟨S, hS⟩ : ∃ S, S = (⟨(sign20 p).toArray⟩ : ByteArray) := ⟨_, rfl⟩
  have hS3 : S.size = 20 := by rw [hS]; show (sign20 p).toArray.size = 20; rw [List.size_toArray, sign20_length h0 h1]
  have ht : FmtStop.textOf (F.told "fmt.Sprintf" [[37, 48, 50, 48, 100], shape2, digits 8 (p % 18446744073709551616).toNat] 0) = S := by rw [hS]; exact told_text F p h0 h1 (wf_i64 h0 h1)
  rw [← hS] at HN
  clear hS
  go_enter Ybaf.func28, Ybaf.ntmps28
  go_wp2
  go_ret
  exact ⟨by rw [HN.out]; rfl, ((Below.refl _ w).alloc (Nat.le_refl _) _).drew⟩
end Go.Proofs.YbulkhyeFmt
