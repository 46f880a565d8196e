import Derived.Test.YbulkicmRows
import Derived.WalkKit
import Derived.WalkSpells
import Derived.Laws.BitsAllLaws
namespace Go.Proofs.Ybulkicm
open Go.RowKit

def acc (d : Nat → Int) : Nat → Int
  | 0 => 0
  | k + 1 => acc d k * 16 + d k

def IsDig (c d : Int) : Prop := (48 ≤ c ∧ c ≤ 57 ∧ d = c - 48) ∨ (97 ≤ c ∧ c ≤ 102 ∧ d = c - 87) ∨ (65 ≤ c ∧ c ≤ 70 ∧ d = c - 55)

theorem IsDig.bd {c d : Int} (h : IsDig c d) : 0 ≤ d ∧ d < 16 := by unfold IsDig at h; omega

theorem ret_int {k : IntKind} {a b : Int} (h : a = b) : Ending.returned (.int k a) = .returned (.int k b) := by rw [h]

theorem or_i32 (a b : Int) (h1 : 0 ≤ a) (h2 : a < 65536) (h3 : 0 ≤ b) (h4 : b < 16) : bits .or .i32 (a * 16) b = a * 16 + b := by
  obtain ⟨A, rfl⟩ := Int.eq_ofNat_of_zero_le h1
  obtain ⟨B, rfl⟩ := Int.eq_ofNat_of_zero_le h3
  have e : ((A : Int) * 16) = ((A * 16 : Nat) : Int) := by omega
  rw [e]
  have hj : A * 16 ||| B = A * 16 + B := nat_join 4 (A * 16) B (by omega) (by omega)
  show IntKind.i32.wrap ((BitVec.ofInt 32 ((A * 16 : Nat) : Int) ||| BitVec.ofInt 32 (B : Int)).toNat : Int) = _
  rw [BitVec.toNat_or, ofInt_u32 (A * 16) (by omega), ofInt_u32 B (by omega), hj]
  simp [IntKind.wrap, IntKind.bits, IntKind.signed]
  omega

theorem acc_bd (d : Nat → Int) (h : ∀ j, j < 4 → 0 ≤ d j ∧ d j < 16) (k : Nat) (hk : k ≤ 3) : 0 ≤ acc d k ∧ acc d k < 65536 := by
  have h0 := h 0 (by omega)
  have h1 := h 1 (by omega)
  have h2 := h 2 (by omega)
  rcases (show k = 0 ∨ k = 1 ∨ k = 2 ∨ k = 3 by omega) with rfl | rfl | rfl | rfl <;> simp only [acc] <;> omega

set_option maxHeartbeats 400000 in
theorem hex4_any (s : ByteArray) (p : Nat) (d : Nat → Int) (w : World) (hs : s.size ≤ 100000) (hp : p + 4 ≤ s.size)
    (hd : ∀ j, (hj : j < 4) → IsDig (s[p + j].toNat : Int) (d j)) :
    Calls Yba.prog 5 #[.string s, .int .i64 (p : Int)] w fun e w' => e = .returned (.int .i32 (acc d 4)) ∧ w' = w := by
  have hb0 : ∀ k, k ≤ 3 → 0 ≤ acc d k ∧ acc d k < 65536 := fun k hk => acc_bd d (fun j hj => (hd j hj).bd) k hk
  have HB : Hid (∀ k, k ≤ 3 → 0 ≤ acc d k ∧ acc d k < 65536) := hb0
  have HD : Hid (∀ j, (hj : j < 4) → IsDig (s[p + j].toNat : Int) (d j)) := hd
  clear hb0 hd
  go_enter Yba.func5, Yba.ntmps5
  go_wp2
  go_loop [5, 6] (fun r i => ∃ k : Nat, k ≤ 4 ∧ i = .int .i64 (p + k : Nat) ∧ r = .int .i32 (acc d k)) (fun _ i => p + 4 - (intOf i).toNat)
  case atStart => exact ⟨0, Nat.zero_le _, rfl, rfl⟩
  case round =>
    obtain ⟨k, hk, rfl, rfl⟩ := hrel
    by_cases hlt : k < 4
    · have hk1 := HD.out k hlt
      have hb := HB.out k (by omega)
      have HK : Hid (IsDig (s[p + k].toNat : Int) (d k)) := hk1
      unfold IsDig at hk1
      rcases hk1 with ⟨h1, h2, h3⟩ | ⟨h1, h2, h3⟩ | ⟨h1, h2, h3⟩
      all_goals
        have H3 : Hid (d k = _) := h3
        clear h3
        go_wp2
        go_round
        case rel => exact ⟨k + 1, by omega, by go_num, by have h := HK.out.bd; have e := H3.out; rw [or_i32 _ _ (by omega) (by omega) (by omega) (by omega)]; simp only [acc]; go_num⟩
        case measure => simp [intOf]; omega
    · obtain rfl : k = 4 := by omega
      go_wp2
      go_ret
      exact ⟨rfl, rfl⟩
end Go.Proofs.Ybulkicm
