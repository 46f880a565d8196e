/- store.zzs0433bname. -/
import Derived.Test.YbulkhyeFmtRows
import Derived.Test.YbulkhyeFmtPlain
import Derived.WalkKit
import Derived.WalkSpells
import Derived.Laws.Rows
import Derived.Laws.IdiomStrings
import Derived.Deep.OwnRows
import Derived.Deep.DrawnRows
import Derived.Below
namespace Go.Proofs.YbulkhyeFmt
open Go.RowKit

/-- ".ndjson" -/
def suf : List UInt8 := [46, 110, 100, 106, 115, 111, 110]
/-- the name of the segment at p -/
def nameOf (p : Int) : ByteArray := ⟨(sign20 p ++ suf).toArray⟩
theorem nameOf_size {p : Int} (h0 : -9223372036854775808 ≤ p) (h1 : p ≤ 9223372036854775807) : (nameOf p).size = 27 := by
  show (sign20 p ++ suf).toArray.size = 27
  rw [List.size_toArray, List.length_append, sign20_length h0 h1]; rfl

/-- b while the loop runs: k digits are laid -/
def bcell (u k j : Nat) : Value := if 20 - k ≤ j then .int .u8 ((Lib.dg u (19 - j)).toNat : Int) else .int .u8 0

theorem bcell_start (u j : Nat) (h : j < 20) : bcell u 0 j = .int .u8 0 := by unfold bcell; rw [if_neg (by omega)]
theorem row_start (u : Nat) (w : World) : (w.alloc (.cells #[.int .u8 0, .int .u8 0, .int .u8 0, .int .u8 0, .int .u8 0, .int .u8 0, .int .u8 0, .int .u8 0, .int .u8 0, .int .u8 0, .int .u8 0, .int .u8 0, .int .u8 0, .int .u8 0, .int .u8 0, .int .u8 0, .int .u8 0, .int .u8 0, .int .u8 0, .int .u8 0] 34)).rowIs w.heap.size 34 20 (bcell u 0) := by
  refine ⟨_, heap_alloc_new w _, rfl, fun i hi => ?_⟩
  rw [bcell_start u i hi]
  show (Array.replicate 20 (Value.int .u8 0))[i]? = _
  simp [hi]
theorem row_step {u k : Nat} {w : World} {N : Nat} (hk : k < 20) (h : w.rowIs N 34 20 (bcell u k)) {j : Nat} (hj : j = 19 - k) {x : Int} (hx : x = 48 + ((u / 10 ^ k % 10 : Nat) : Int)) : (w.setCell ⟨N, j, none⟩ (.int .u8 x)).rowIs N 34 20 (bcell u (k + 1)) := by
  subst hj
  refine (h.set _ _).congr fun i hi => ?_
  unfold bcell
  by_cases e : i = 19 - k
  · rw [if_pos e, if_pos (by omega), dg_val, hx, show 19 - i = k by omega]
    simp
  · rw [if_neg e]
    by_cases e2 : 20 - k ≤ i
    · rw [if_pos e2, if_pos (by omega)]
    · rw [if_neg e2, if_neg (by omega)]

theorem div_step {x u t : Nat} (hx : x = u / 10 ^ (20 - (t + 1))) (ht : t < 20) : ((x : Int) / 10) = ((u / 10 ^ (20 - t) : Nat) : Int) := by
  rw [show 20 - t = 20 - (t + 1) + 1 by omega, Nat.pow_succ, ← Nat.div_div_eq_div_mul, ← hx]
  omega
theorem bcell_end (u j : Nat) (hj : j < 20) : some (bcell u (20 - 0) j) = some (.int .u8 (((dgs u 20)[j]'(by rw [dgs_length]; exact hj)).toNat : Int)) := by
  have h := dgs_at u 20 j hj
  rw [List.getElem?_eq_getElem (by rw [dgs_length]; exact hj)] at h
  injection h with h
  rw [h]
  unfold bcell
  rw [if_pos (by omega), show 20 - 1 - j = 19 - j by omega]
theorem bcell_neg (u j : Nat) (hj : j < 20) : some (if j = 0 then Value.int .u8 45 else bcell u (20 - 0) j) = some (.int .u8 (((45 :: dgs u 19)[j]'(by rw [List.length_cons, dgs_length]; exact hj)).toNat : Int)) := by
  cases j with
  | zero => rfl
  | succ j =>
    have h := dgs_at u 19 j (by omega)
    rw [List.getElem?_eq_getElem (by rw [dgs_length]; omega)] at h
    injection h with h
    rw [if_neg (by omega), List.getElem_cons_succ, h]
    unfold bcell
    rw [if_pos (by omega), show 19 - (j + 1) = 19 - 1 - j by omega]
theorem name_add {p : Int} {l : List UInt8} (h : sign20 p = l) : nameOf p = ⟨l.toArray⟩ ++ ⟨#[46, 110, 100, 106, 115, 111, 110]⟩ := by
  subst h
  unfold nameOf suf
  apply ByteArray.ext
  simp [ByteArray.data_append]

set_option maxHeartbeats 2000000 in
set_option maxRecDepth 100000 in
theorem name_any (p : Int) (h0 : -9223372036854775808 ≤ p) (h1 : p ≤ 9223372036854775807) (w : World) :
    Calls Ybaf.prog 5 #[.int .i64 p] w fun e w' => e = .returned (.string (nameOf p)) ∧ Below w.heap.size w w' := by
  cases hneg : decide (p < 0)
  · have hp : ¬ p < 0 := by simpa using hneg
    have hp0 : 0 ≤ p := by omega
    obtain ⟨u, hu⟩ : ∃ u : Nat, p = (u : Int) := ⟨p.toNat, by omega⟩
    have h63 : u < 9223372036854775808 := by omega
    have hend := sign20_pos hp0 h1
    rw [hu, Int.toNat_natCast] at hend
    have HEND : Hid (nameOf p = ⟨(dgs u 20).toArray⟩ ++ ⟨#[46, 110, 100, 106, 115, 111, 110]⟩) := by rw [hu]; exact name_add hend
    rw [hu] at HEND
    subst hu
    clear hend
    have H63 : Hid (u < 9223372036854775808) := h63
    clear h63
    go_enter Ybaf.func5, Ybaf.ntmps5
    go_wp2_with fail
    go_loopw [3, 6] (fun m i wr => ∃ t : Nat, t ≤ 20 ∧ i = .int .i64 ((t : Int) - 1) ∧ m = .int .u64 ((u / 10 ^ (20 - t) : Nat) : Int) ∧ Hid (wr.rowIs w.heap.size 34 20 (bcell u (20 - t))) ∧ Hid (Below w.heap.size w wr)) (fun _ i _ => (intOf i + 1).toNat)
    case atStart => exact ⟨20, Nat.le_refl _, rfl, by simp, row_start u w, (Below.refl _ _).alloc (Nat.le_refl _) _⟩
    case round =>
      obtain ⟨t, ht, rfl, rfl, HR, HB⟩ := hrel
      cases t with
      | succ t =>
        rw [show ((t + 1 : Nat) : Int) - 1 = (t : Int) by omega]
        have hcell := HR.out.cell (i := t) (by omega)
        have hfro := HR.out.frozen t
        generalize bcell u (20 - (t + 1)) t = old at hcell
        obtain ⟨x, hx⟩ : ∃ x : Nat, x = u / 10 ^ (20 - (t + 1)) := ⟨_, rfl⟩
        have hx1 : x < 9223372036854775808 := by rw [hx]; exact Nat.lt_of_le_of_lt (Nat.div_le_self _ _) H63.out
        have HX : Hid (x = u / 10 ^ (20 - (t + 1))) := hx
        rw [← hx]
        clear hx
        have x0 : (0 : Int) ≤ (x : Int) := by omega
        have x1 : (x : Int) < 9223372036854775808 := by omega
        have y0 : (0 : Int) ≤ (x : Int) % 10 := by omega
        have y1 : (x : Int) % 10 < 10 := by omega
        have t0 : (0 : Int) ≤ (t : Int) := by omega
        have t1 : (t : Int) < 20 := by omega
        clear hx1
        go_wp2_with fail
        refine ⟨⟨t, by omega, rfl, ?_, ?_, ?_⟩, ?_⟩
        · rw [div_step HX.out (by omega)]
        · exact row_step (k := 20 - (t + 1)) (by omega) HR.out (by omega) (by rw [HX.out]; omega) |>.congr fun i _ => by rw [show 20 - (t + 1) + 1 = 20 - t by omega]
        · exact HB.out.setCell (Nat.le_refl _) _
        · simp [intOf]
      | zero =>
        have hcv := run_convert_bytes_back (P := Ybaf.prog) wr 35 9 5 ⟨w.heap.size, 0, none⟩ 20 (dgs u 20) Ybaf.underlying35 Ybaf.underlying5 Ybaf.underlying9 (fun j hj => by
          rw [dgs_length] at hj
          rw [Addr.add_lit, Nat.zero_add, HR.out.cell hj]
          exact bcell_end u j hj)
        rw [dgs_length] at hcv
        have hsz : (⟨(dgs u 20).toArray⟩ : ByteArray).size = 20 := by show (dgs u 20).toArray.size = 20; rw [List.size_toArray, dgs_length]
        generalize (⟨(dgs u 20).toArray⟩ : ByteArray) = S at hcv hsz HEND
        go_wp2_with fail
        go_ret
        exact ⟨by rw [HEND.out]; rfl, HB.out⟩
  · have hp : p < 0 := by simpa using hneg
    obtain ⟨v, hu⟩ : ∃ v : Nat, p = -(v : Int) - 1 := ⟨(-p - 1).toNat, by omega⟩
    have hend := sign20_neg hp h0
    rw [hu, show (-(v : Int) - 1).natAbs = v + 1 by omega] at hend
    have HEND : Hid (nameOf p = ⟨(45 :: dgs (v + 1) 19).toArray⟩ ++ ⟨#[46, 110, 100, 106, 115, 111, 110]⟩) := by rw [hu]; exact name_add hend
    rw [hu] at HEND
    subst hu
    clear hend
    obtain ⟨u, hu⟩ : ∃ u, u = v + 1 := ⟨_, rfl⟩
    rw [← hu] at HEND
    have HU : Hid (u = v + 1) := hu
    have h63 : u ≤ 9223372036854775808 := by omega
    clear hu
    have v0 : (0 : Int) ≤ (v : Int) := by omega
    have v1 : (v : Int) < 9223372036854775808 := by omega
    have H63 : Hid (u ≤ 9223372036854775808) := h63
    clear h63
    go_enter Ybaf.func5, Ybaf.ntmps5
    go_wp2_with fail
    go_loopw [3, 6] (fun m i wr => ∃ t : Nat, t ≤ 20 ∧ i = .int .i64 ((t : Int) - 1) ∧ m = .int .u64 ((u / 10 ^ (20 - t) : Nat) : Int) ∧ Hid (wr.rowIs w.heap.size 34 20 (bcell u (20 - t))) ∧ Hid (Below w.heap.size w wr)) (fun _ i _ => (intOf i + 1).toNat)
    case atStart => exact ⟨20, Nat.le_refl _, rfl, by rw [HU.out]; simp, row_start u w, (Below.refl _ _).alloc (Nat.le_refl _) _⟩
    case round =>
      obtain ⟨t, ht, rfl, rfl, HR, HB⟩ := hrel
      cases t with
      | succ t =>
        rw [show ((t + 1 : Nat) : Int) - 1 = (t : Int) by omega]
        have hcell := HR.out.cell (i := t) (by omega)
        have hfro := HR.out.frozen t
        generalize bcell u (20 - (t + 1)) t = old at hcell
        obtain ⟨x, hx⟩ : ∃ x : Nat, x = u / 10 ^ (20 - (t + 1)) := ⟨_, rfl⟩
        have hx1 : x ≤ 9223372036854775808 := by rw [hx]; exact Nat.le_trans (Nat.div_le_self _ _) H63.out
        have HX : Hid (x = u / 10 ^ (20 - (t + 1))) := hx
        rw [← hx]
        clear hx
        have x0 : (0 : Int) ≤ (x : Int) := by omega
        have x1 : (x : Int) < 18446744073709551616 := by omega
        have y0 : (0 : Int) ≤ (x : Int) % 10 := by omega
        have y1 : (x : Int) % 10 < 10 := by omega
        have t0 : (0 : Int) ≤ (t : Int) := by omega
        have t1 : (t : Int) < 20 := by omega
        clear hx1
        go_wp2_with fail
        refine ⟨⟨t, by omega, rfl, ?_, ?_, ?_⟩, ?_⟩
        · rw [div_step HX.out (by omega)]
        · exact row_step (k := 20 - (t + 1)) (by omega) HR.out (by omega) (by rw [HX.out]; omega) |>.congr fun i _ => by rw [show 20 - (t + 1) + 1 = 20 - t by omega]
        · exact HB.out.setCell (Nat.le_refl _) _
        · simp [intOf]
      | zero =>
        have hcell0 := HR.out.cell (i := 0) (by omega)
        have hfro0 := HR.out.frozen 0
        generalize bcell u (20 - 0) 0 = old at hcell0
        have hcv := run_convert_bytes_back (P := Ybaf.prog) (wr.setCell ⟨w.heap.size, 0, none⟩ (.int .u8 45)) 35 9 5 ⟨w.heap.size, 0, none⟩ 20 (45 :: dgs u 19) Ybaf.underlying35 Ybaf.underlying5 Ybaf.underlying9 (fun j hj => by
          rw [List.length_cons, dgs_length] at hj
          rw [Addr.add_lit, Nat.zero_add, (HR.out.set 0 (.int .u8 45)).cell hj]
          exact bcell_neg u j hj)
        rw [List.length_cons, dgs_length] at hcv
        have hsz : (⟨(45 :: dgs u 19).toArray⟩ : ByteArray).size = 20 := by show (45 :: dgs u 19).toArray.size = 20; rw [List.size_toArray, List.length_cons, dgs_length]
        generalize (⟨(45 :: dgs u 19).toArray⟩ : ByteArray) = S at hcv hsz HEND
        go_wp2_with fail
        go_ret
        exact ⟨by rw [HEND.out]; rfl, HB.out.setCell (Nat.le_refl _) _⟩
end Go.Proofs.YbulkhyeFmt
