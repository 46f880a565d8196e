import Derived.Test.YbulkhxqFmtRows
import Derived.WalkKit
import Derived.WalkSpells
namespace Go.Proofs.YbulkhxqFmt
open Go.RowKit

/-- Does the byte stand for itself in a key? -/
def nameB (c : Int) : Bool := decide ((97 ≤ c ∧ c ≤ 122) ∨ (65 ≤ c ∧ c ≤ 90) ∨ (48 ≤ c ∧ c ≤ 57) ∨ c = 45 ∨ c = 95)
def keyB (c : Int) : Bool := nameB c || c == 46 || c == 47

theorem ret_bool {a b : Bool} (h : a = b) : Ending.returned (.bool a) = .returned (.bool b) := by rw [h]

set_option maxHeartbeats 400000 in
theorem nameByte_any (c : Int) (w : World) : Calls Ybaf.prog 18 #[.int .u8 c] w fun e w' => e = .returned (.bool (nameB c)) ∧ w' = w := by
  go_enter Ybaf.func18, Ybaf.ntmps18
  go_wp2
  all_goals go_ret
  all_goals exact ⟨ret_bool (by rw [Bool.eq_iff_iff]; simp [nameB]; try omega), rfl⟩

set_option maxHeartbeats 400000 in
theorem keyByte_any (c : Int) (w : World) : Calls Ybaf.prog 14 #[.int .u8 c] w fun e w' => e = .returned (.bool (keyB c)) ∧ w' = w := by
  cases hn : nameB c
  all_goals
    have hc := nameByte_any c
    rw [hn] at hc
    have HN : Hid (nameB c = _) := hn
    have HC : Hid _ := hc
    clear hn hc
    go_enter Ybaf.func14, Ybaf.ntmps14
    go_wp2_with (go_at_call 18; refine (HC.out _).mono ?_; rintro e w' ⟨rfl, rfl⟩)
    all_goals go_ret
    all_goals exact ⟨ret_bool (by unfold keyB; rw [HN.out]; try simp [*]), rfl⟩
end Go.Proofs.YbulkhxqFmt
