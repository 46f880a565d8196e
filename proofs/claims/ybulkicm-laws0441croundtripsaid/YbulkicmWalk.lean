import Derived.Test.YbulkicmHex
import Derived.Laws.IdiomStrings
namespace Go.Proofs.Ybulkicm
open Go.RowKit
set_option linter.unusedVariables false

def dg (v : Int) (j : Nat) : Int := if j = 0 then v / 4096 % 16 else if j = 1 then v / 256 % 16 else if j = 2 then v / 16 % 16 else v % 16
theorem acc_dg (v : Int) (h0 : 0 ≤ v) (h1 : v < 65536) : acc (dg v) 4 = v := by simp only [acc, dg]; simp; omega
theorem and15 (x : Int) (h0 : 0 ≤ x) (h1 : x < 65536) : bits .and .u16 x 15 = x % 16 := by
  rw [u16_and x 15 h0 h1 (by omega) (by omega)]
  show ((x.toNat &&& 15 : Nat) : Int) = _
  rw [nat_mask4]; omega
theorem low_fin : ∀ n : Fin 16, IsDig ((([48, 49, 50, 51, 52, 53, 54, 55, 56, 57, 97, 98, 99, 100, 101, 102] : List UInt8)[n.val]'(n.isLt)).toNat : Int) (n.val : Int) := by
  unfold IsDig; decide
theorem up_fin : ∀ n : Fin 16, IsDig ((([48, 49, 50, 51, 52, 53, 54, 55, 56, 57, 65, 66, 67, 68, 69, 70] : List UInt8)[n.val]'(n.isLt)).toNat : Int) (n.val : Int) := by
  unfold IsDig; decide
theorem low_dig (x : Int) (h0 : 0 ≤ x) (h1 : x < 16) (h : x.toNat < (⟨#[48, 49, 50, 51, 52, 53, 54, 55, 56, 57, 97, 98, 99, 100, 101, 102]⟩ : ByteArray).size) :
    IsDig (((⟨#[48, 49, 50, 51, 52, 53, 54, 55, 56, 57, 97, 98, 99, 100, 101, 102]⟩ : ByteArray)[x.toNat]'h).toNat : Int) x := by
  have := low_fin ⟨x.toNat, by omega⟩
  rw [show (((⟨x.toNat, by omega⟩ : Fin 16).val : Nat) : Int) = x by show (x.toNat : Int) = x; omega] at this
  exact this
theorem up_dig (x : Int) (h0 : 0 ≤ x) (h1 : x < 16) (h : x.toNat < (⟨#[48, 49, 50, 51, 52, 53, 54, 55, 56, 57, 65, 66, 67, 68, 69, 70]⟩ : ByteArray).size) :
    IsDig (((⟨#[48, 49, 50, 51, 52, 53, 54, 55, 56, 57, 65, 66, 67, 68, 69, 70]⟩ : ByteArray)[x.toNat]'h).toNat : Int) x := by
  have := up_fin ⟨x.toNat, by omega⟩
  rw [show (((⟨x.toNat, by omega⟩ : Fin 16).val : Nat) : Int) = x by show (x.toNat : Int) = x; omega] at this
  exact this

def upd (c : Nat → UInt8) (k : Nat) (x : UInt8) (j : Nat) : UInt8 := if j = k then x else c j
theorem upd_dig {a1 : Int} {c : Nat → UInt8} {k : Nat} {x : UInt8} (h : ∀ j, j < k → IsDig ((c j).toNat : Int) (dg a1 j)) (hx : IsDig (x.toNat : Int) (dg a1 k)) : ∀ j, j < k + 1 → IsDig ((upd c k x j).toNat : Int) (dg a1 j) := by
  intro j hj
  unfold upd
  by_cases e : j = k
  · subst e; simpa using hx
  · simp only [e, if_false]; exact h j (by omega)

/-- the text's four bytes behind the head -/
theorem text_at (a b c : ByteArray) (j : Nat) (hj : j < b.size) (h : a.size + j < (a ++ b ++ c).size) : (a ++ b ++ c)[a.size + j] = b[j] := by
  have h1 : a.size + j < (a ++ b).size := by simp; omega
  rw [ByteArray.getElem_append_left h1, ByteArray.getElem_append_right (by omega)]
  simp

set_option maxHeartbeats 400000 in
theorem law_any (a0 : ByteArray) (a1 : Int) (a2 : Int) (a3 : ByteArray) (h0 : a0.size ≤ 1024) (h3 : a3.size ≤ 1024) (v0 : 0 ≤ a1) (v1 : a1 < 65536) (u0 : 0 ≤ a2) (u1 : a2 < 256) (w : World) :
    Calls Yba.prog 4 #[.string a0, .int .u16 a1, .int .u8 a2, .string a3] w fun e w' => e = .returned (.bool true) ∧ Grown w w' := by
  go_enter Yba.func4, Yba.ntmps4
  go_wp2
  go_loopw [12] (fun i wr => ∃ k : Nat, k ≤ 4 ∧ i = .int .i64 k ∧ ∃ c : Nat → UInt8, (∀ j, j < k → IsDig ((c j).toNat : Int) (dg a1 j)) ∧ wr = w.alloc (.cells #[.int .u8 (c 0).toNat, .int .u8 (c 1).toNat, .int .u8 (c 2).toNat, .int .u8 (c 3).toNat] 26)) (fun i _ => 4 - (intOf i).toNat)
  case atStart => exact ⟨0, Nat.zero_le _, rfl, fun _ => 0, fun j hj => by omega, rfl⟩
  case round =>
    obtain ⟨k, hk, rfl, c, hc, rfl⟩ := hrel
    have HC : Hid (∀ j, j < k → IsDig ((c j).toNat : Int) (dg a1 j)) := hc
    clear hc
    rcases (show k = 0 ∨ k = 1 ∨ k = 2 ∨ k = 3 ∨ k = 4 by omega) with rfl | rfl | rfl | rfl | rfl
    · have e0 := and15 (a1 / 4096) (by omega) (by omega)
      go_wp2
      all_goals
        go_roundw
        case rel => exact ⟨1, by omega, rfl, upd c 0 _, upd_dig HC.out (by first | exact up_dig _ (by omega) (by omega) _ | exact low_dig _ (by omega) (by omega) _), rfl⟩
        case measure => simp [intOf]
    · have e0 := and15 (a1 / 256) (by omega) (by omega)
      go_wp2
      all_goals
        go_roundw
        case rel => exact ⟨2, by omega, rfl, upd c 1 _, upd_dig HC.out (by first | exact up_dig _ (by omega) (by omega) _ | exact low_dig _ (by omega) (by omega) _), rfl⟩
        case measure => simp [intOf]
    · have e0 := and15 (a1 / 16) (by omega) (by omega)
      go_wp2
      all_goals
        go_roundw
        case rel => exact ⟨3, by omega, rfl, upd c 2 _, upd_dig HC.out (by first | exact up_dig _ (by omega) (by omega) _ | exact low_dig _ (by omega) (by omega) _), rfl⟩
        case measure => simp [intOf]
    · have e0 := and15 a1 (by omega) (by omega)
      go_wp2
      all_goals
        go_roundw
        case rel => exact ⟨4, by omega, rfl, upd c 3 _, upd_dig HC.out (by first | exact up_dig _ (by omega) (by omega) _ | exact low_dig _ (by omega) (by omega) _), rfl⟩
        case measure => simp [intOf]
    · have hcv := run_convert_bytes_back (P := Yba.prog) (w.alloc (.cells #[.int .u8 (c 0).toNat, .int .u8 (c 1).toNat, .int .u8 (c 2).toNat, .int .u8 (c 3).toNat] 26)) 28 9 5 ⟨w.heap.size, 0, none⟩ 4 [c 0, c 1, c 2, c 3] Yba.underlying28 Yba.underlying5 Yba.underlying9 (by
        intro j hj
        simp at hj
        rcases (show j = 0 ∨ j = 1 ∨ j = 2 ∨ j = 3 by omega) with rfl | rfl | rfl | rfl <;> simp [Addr.add])
      simp only [List.length_cons, List.length_nil] at hcv
      have hsz : (a0 ++ (⟨#[c 0, c 1, c 2, c 3]⟩ : ByteArray) ++ a3).size = a0.size + 4 + a3.size := by simp [ByteArray.size_append]; rfl
      have HSZ : Hid ((a0 ++ (⟨#[c 0, c 1, c 2, c 3]⟩ : ByteArray) ++ a3).size = a0.size + 4 + a3.size) := hsz
      clear hsz
      go_wp2_with fail
      refine (hex4_any _ a0.size (dg a1) _ (by rw [HSZ.out]; omega) (by rw [HSZ.out]; omega) ?_).mono ?_
      · intro j hj
        rw [text_at a0 _ a3 j (by exact hj)]
        have := HC.out j hj
        rcases (show j = 0 ∨ j = 1 ∨ j = 2 ∨ j = 3 by omega) with rfl | rfl | rfl | rfl <;> exact this
      · rintro e w' ⟨rfl, rfl⟩
        rw [acc_dg a1 v0 v1]
        go_wp2
        go_ret
        exact ⟨by simp, (Grown.refl _).alloc _ _⟩
end Go.Proofs.Ybulkicm
