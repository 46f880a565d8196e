/- kv.EscapeKey; groups.checkpointKey. -/
import Derived.Test.YbulkhxqFmtEsc
import Derived.Test.YbulkhxqFmtKey
namespace Go.Proofs.YbulkhxqFmt
open Go.Extern.Stop Go.Stop Go.Extern Go.Kit Go.RowKit

def escB (c : UInt8) : List UInt8 := if keyB (c.toNat : Int) = true then [c] else escT (c.toNat : Int)
def esc (l : List UInt8) : List UInt8 := l.flatMap escB

theorem escB_len (c : UInt8) : (escB c).length ≤ 3 := by unfold escB; split <;> simp [escT]
theorem esc_len (l : List UInt8) : (esc l).length ≤ 3 * l.length := by
  induction l with
  | nil => simp [esc]
  | cons c l ih => have := escB_len c; simp only [esc, List.flatMap_cons, List.length_append, List.length_cons] at *; omega
theorem esc_snoc (l : List UInt8) (c : UInt8) : esc (l ++ [c]) = esc l ++ escB c := by simp [esc]
theorem take_snoc (s : ByteArray) (k : Nat) (h : k < s.size) : s.data.toList.take (k + 1) = s.data.toList.take k ++ [s[k]] := by
  rw [List.take_succ_eq_append_getElem (by simpa using h)]; rfl

theorem u8_wf (c : UInt8) : (Lit.int .u8 (c.toNat : Int)).wf = true := by
  have : c.toNat < 256 := c.toNat_lt
  simp [Lit.wf, IntKind.min, IntKind.max, IntKind.bits, IntKind.signed]
  omega

set_option maxHeartbeats 1000000 in
set_option maxRecDepth 100000 in
theorem escapeKey_any (F : Interp) (s : ByteArray) (w : World) (hF : F.told.answers w.tape) (hs : s.size ≤ 1024) :
    Calls Ybaf.prog 13 #[.string s] w fun e w' => e = .returned (.string ⟨(esc s.data.toList).toArray⟩) ∧ Below w.heap.size w w' := by
  go_enter Ybaf.func13, Ybaf.ntmps13
  go_wp2
  go_loopw [4] (fun i wr => ∃ k : Nat, k ≤ s.size ∧ i = .int .i64 k ∧ Hid (Lib.IsBuilder 88 5 w.heap.size w.heap.size (Lib.byteCells (esc (s.data.toList.take k))) wr) ∧ Hid (Below w.heap.size w wr)) (fun i _ => s.size - (intOf i).toNat)
  case atStart => exact ⟨0, Nat.zero_le _, rfl, Lib.fresh_isBuilder 88 5 w, (Below.refl _ w).alloc (Nat.le_refl _) _⟩
  case round =>
    obtain ⟨k, hk, rfl, HB, HW⟩ := hrel
    have hel := esc_len (s.data.toList.take k)
    have htl : (s.data.toList.take k).length ≤ k := List.length_take_le _ _
    by_cases hlt : k < s.size
    · have hsn : esc (s.data.toList.take (k + 1)) = esc (s.data.toList.take k) ++ escB s[k] := by rw [take_snoc s k hlt, esc_snoc]
      have HSN : Hid (esc (s.data.toList.take (k + 1)) = esc (s.data.toList.take k) ++ escB s[k]) := hsn
      clear hsn
      have hc8 : s[k].toNat < 256 := s[k].toNat_lt
      cases hkb : keyB (s[k].toNat : Int)
      · have hk2 := keyByte_any (s[k].toNat : Int)
        rw [hkb] at hk2
        have HK2 : Hid _ := hk2
        have HKB : Hid (keyB (s[k].toNat : Int) = false) := hkb
        clear hk2 hkb
        go_wp2_with (first | (go_at_call 14; refine (HK2.out _).mono ?_; rintro e w' ⟨rfl, rfl⟩) | (go_at_call 16; refine (fprintf_any F w.heap.size w.heap.size _ _ _ (by rw [HW.out.tape]; exact hF) HB.out (by omega) (by omega) (u8_wf _) (by rw [Lib.byteCells_length]; omega) (HW.out.size)).mono ?_; rintro e w' ⟨rfl, hb, hw⟩))
        go_roundw
        case rel => exact ⟨k + 1, by omega, by go_num, by
          show Lib.IsBuilder _ _ _ _ _ _
          rw [HSN.out, Lib.byteCells_append, escB, HKB.out]
          exact .inr hb, HW.out.trans hw⟩
        case measure => simp [intOf]; omega
      · have hk2 := keyByte_any (s[k].toNat : Int)
        rw [hkb] at hk2
        have HK2 : Hid _ := hk2
        have HKB : Hid (keyB (s[k].toNat : Int) = true) := hkb
        clear hk2 hkb
        go_wp2_with (first | (go_at_call 14; refine (HK2.out _).mono ?_; rintro e w' ⟨rfl, rfl⟩) | (go_at_call 15; refine (Ybaf.Builder_WriteByte w.heap.size w.heap.size _ _ _ HB.out (by rw [Lib.byteCells_length]; omega) (HW.out.size)).mono ?_; rintro e w' ⟨rfl, hb, hw⟩))
        go_roundw
        case rel => exact ⟨k + 1, by omega, by go_num, by
          show Lib.IsBuilder _ _ _ _ _ _
          rw [HSN.out, Lib.byteCells_append, escB, HKB.out]
          exact .inr hb, HW.out.trans hw⟩
        case measure => simp [intOf]; omega
    · obtain rfl : k = s.size := by omega
      go_wp2_with (go_at_call 17; refine (Ybaf.Builder_String_any w.heap.size w.heap.size _ _ HB.out HW.out.size).mono ?_; rintro e w' ⟨rfl, hw⟩)
      go_ret
      refine ⟨?_, HW.out.trans hw⟩
      have : s.data.toList.take s.size = s.data.toList := List.take_of_length_le (by show s.data.toList.length ≤ s.data.size; rw [Array.length_toList]; exact Nat.le_refl _)
      rw [this]
      rfl

/-- THE BUCKET's KEY: the subscription's name, a dot, the key escaped. -/
def ckey (sub key : ByteArray) : ByteArray := sub ++ ⟨#[46]⟩ ++ ⟨(esc key.data.toList).toArray⟩

set_option maxHeartbeats 1000000 in
theorem checkpointKey_any (F : Interp) (sub key : ByteArray) (w : World) (hF : F.told.answers w.tape) (hs : sub.size ≤ 1024) (hk : key.size ≤ 1024) :
    Calls Ybaf.prog 9 #[.string sub, .string key] w fun e w' => e = .returned (.string (ckey sub key)) ∧ Below w.heap.size w w' := by
  have hel : (esc key.data.toList).length ≤ 3072 := by
    have h1 := esc_len key.data.toList
    have h2 : key.data.toList.length = key.size := by rw [Array.length_toList]; rfl
    omega
  go_enter Ybaf.func9, Ybaf.ntmps9
  go_wp2_with (go_at_call 13; refine (escapeKey_any F key _ (by exact hF) hk).mono ?_; rintro e w' ⟨rfl, hw⟩)
  go_ret
  exact ⟨rfl, hw⟩
end Go.Proofs.YbulkhxqFmt
