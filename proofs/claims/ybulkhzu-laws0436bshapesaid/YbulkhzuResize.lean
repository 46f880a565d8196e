/- pyre.resize, and the walk of LawS0436BShape. -/
import Derived.Test.YbulkhzuRows
import Derived.WalkKit
import Derived.WalkSpells
import Derived.Laws.MakeOwn
import Derived.Laws.CopyOwn
import Derived.Lib.SliceRun
import Derived.Lib.LazyBuf
import Derived.Deep.OwnRows
import Derived.Deep.DrawnRows
import Derived.BigQuiet
import Derived.Below
import Derived.LaidEqlPtr
namespace Go.Proofs.Ybulkhzu
open Go.RowKit
set_option linter.unusedVariables false

theorem info3 : (Yba.prog.info? 3).map (fun i => (i.zero, i.size, i.bytes)) = some (some (.int .i64 0), 1, 8) := by kernel_rfl
theorem info3s : (Yba.prog.info? 3).map (·.size) = some 1 := by kernel_rfl
theorem zero3 (w : World) : (zeroValue 3).run Yba.prog w = .ok (.int .i64 0) w := by kernel_rfl
theorem make_row (w : World) (l c : Nat) (hl : l ≤ c) (hc : c ≤ 4096) : (Instr.makeSlice 22 (.int .i64 (l : Int)) (.int .i64 (c : Int))).run Yba.prog w = .ok (.slice (some ⟨w.heap.size, 0, none⟩) l c) (w.alloc (.cells (madeCells #[.int .i64 0] c) 3)) := by
  obtain ⟨i0, hi, hz0, hz1, hz2⟩ := info_parts info3
  have := run_make (P := Yba.prog) w 22 3 i0 _ Yba.underlying22 hi hz0 .i64 .i64 (l : Int) (c : Int) (by omega) (by omega) (by rw [hz2]; omega) (by omega)
  rw [hz1] at this
  simpa [Value.cells] using this

/-- the row behind resize -/
def cleared (n : Nat) (f : Nat → Value) (j : Nat) : Value := if j < n then .int .i64 0 else f j

theorem below_setCells {B b : Nat} {a : World} (hb : B ≤ b) (vs : List Value) (o : Nat) (w : World) (h : Below B a w) : Below B a (w.setCells b o vs) := Go.below_setCells hb vs o w h

set_option maxHeartbeats 1000000 in
set_option maxRecDepth 100000 in
theorem resize_reuse (B b len c n : Nat) (f : Nat → Value) (w : World) (hB : B ≤ b) (hn : n ≤ c) (hc : c ≤ 4096) (hrow : w.rowIs b 3 c f) :
    Calls Yba.prog 4 #[.slice (some ⟨b, 0, none⟩) len c, .int .i64 (n : Int)] w fun e w' => e = .returned (.slice (some ⟨b, 0, none⟩) n c) ∧ w'.rowIs b 3 c (cleared n f) ∧ Below B w w' := by
  have h1 : ¬ ((c : Int) < (n : Int)) := by omega
  have h2 : (0 : Int) ≤ (n : Int) := by omega
  have h3 : (n : Int) ≤ (c : Int) := by omega
  by_cases h0 : n = 0
  · subst h0
    have hcl : w.rowIs b 3 c (cleared 0 f) := hrow.congr fun i hi => by simp [cleared]
    have HC : Hid (w.rowIs b 3 c (cleared 0 f)) := hcl
    clear hcl hrow
    have hcl : ∀ ty, (Builtin.clear_ #[22] ty #[.slice (some ⟨b, 0, none⟩) 0 c]).run Yba.prog w = .ok (.tuple #[]) w := fun ty => by
      simp [Builtin.clear_, run_underlying Yba.underlying22]
    go_enter Yba.func4, Yba.ntmps4
    go_wp2
    go_ret
    exact ⟨rfl, HC.out, Below.refl _ _⟩
  · have hcl : ∀ ty, (Builtin.clear_ #[22] ty #[.slice (some ⟨b, 0, none⟩) n c]).run Yba.prog w = .ok (.tuple #[]) (w.setCells b 0 (List.replicate n (.int .i64 0))) :=
      fun ty => Lib.run_clear_slice w 22 3 ty (.int .i64 0) Yba.underlying22 zero3 rfl rfl b 0 n c (by omega) (fun j hj => by rw [Nat.zero_add, hrow.cell (by omega)]; rfl) (fun j hj => by rw [Nat.zero_add]; exact hrow.frozen j)
    have HC : Hid ((w.setCells b 0 (List.replicate n (.int .i64 0))).rowIs b 3 c (cleared n f)) := by
      refine (Go.rowIs_setCells (List.replicate n (.int .i64 0)) 0 w f hrow).congr fun i hi => ?_
      unfold cleared
      by_cases e : i < n
      · rw [if_pos (by simp; omega), if_pos e]; simp [e]
      · rw [if_neg (by simp; omega), if_neg e]
    have HB : Hid (Below B w (w.setCells b 0 (List.replicate n (.int .i64 0)))) := below_setCells hB _ _ _ (Below.refl _ _)
    clear hrow
    go_enter Yba.func4, Yba.ntmps4
    go_wp2
    go_ret
    exact ⟨rfl, HC.out, HB.out⟩

set_option maxHeartbeats 1000000 in
set_option maxRecDepth 100000 in
theorem resize_fresh (b len c n : Nat) (w : World) (hn : c < n) (hc : n ≤ 4096) :
    Calls Yba.prog 4 #[.slice (some ⟨b, 0, none⟩) len c, .int .i64 (n : Int)] w fun e w' => e = .returned (.slice (some ⟨w.heap.size, 0, none⟩) n n) ∧ w' = w.alloc (.cells (madeCells #[.int .i64 0] n) 3) := by
  have h1 : (c : Int) < (n : Int) := by omega
  have hmk := make_row w n n (Nat.le_refl _) hc
  go_enter Yba.func4, Yba.ntmps4
  go_wp2
  go_ret
  exact ⟨rfl, rfl⟩

theorem same_ptr (a : Addr) (w : World) : (Op.equalIn 10000 24 (.pointer (some a)) (.pointer (some a))).run Yba.prog w = .ok true w := by
  obtain ⟨i0, hi, _⟩ := info_parts info3
  have h : ∀ d : Nat, (Op.equalIn (d + 1) 24 (.pointer (some a)) (.pointer (some a))).run Yba.prog w = .ok true w := fun d => by
    simp [Op.equalIn, run_underlying Yba.underlying24, sizeOf, typeInfo, hi, run_sameAddr_same]
  exact h 9999
theorem neq_ptr (a : Addr) (w : World) : (binOp .neq 24 (.pointer (some a)) (.pointer (some a))).run Yba.prog w = .ok (.bool false) w := by
  simp only [binOp]
  simp [Op.equal, Op.maxDepth, same_ptr]

/-- the row behind the copy -/
def copied (len : Nat) (zs : Nat → Int) (j : Nat) : Value := if j < len then .int .i64 (zs j) else .int .i64 0
/-- what goes over -/
def zcs (len : Nat) (zs : Nat → Int) : List Value := (List.range len).map fun j => .int .i64 (zs j)
theorem zcs_length (len : Nat) (zs : Nat → Int) : (zcs len zs).length = len := by simp [zcs]
theorem zcs_at (len : Nat) (zs : Nat → Int) (j : Nat) (h : j < len) : (zcs len zs)[j]? = some (.int .i64 (zs j)) := by simp [zcs, h]
theorem zcs_one (len : Nat) (zs : Nat → Int) : ∀ v ∈ zcs len zs, v.oneCell' = true := by
  intro v hv
  simp only [zcs, List.mem_map] at hv
  obtain ⟨j, _, rfl⟩ := hv
  rfl
/-- what make lays -/
def laid0 (c : Nat) : List Value := (madeCells #[.int .i64 0] c).toList
theorem laid0_length (c : Nat) : (laid0 c).length = c := by rw [laid0, Array.length_toList]; exact size_madeCells _ _
theorem laid0_at (c j : Nat) (h : j < c) : (laid0 c)[j]? = some (.int .i64 0) := by simp [laid0, madeCells, h, Nat.mod_one]

/-- WHERE THE SLICE data LEADS -/
def Src (a0 : Option Addr) (len0 : Nat) (zs : Nat → Int) (w : World) : Prop := len0 = 0 ∨ ∃ x, a0 = some x ∧ ∀ j, j < len0 → w.cell? (x.add j) = some (.int .i64 (zs j))

theorem Src.below {a0 : Option Addr} {len0 : Nat} {zs : Nat → Int} {w w' : World} (h : Src a0 len0 zs w) (hb : Below w.heap.size w w') : Src a0 len0 zs w' := by
  rcases h with h | ⟨x, hx, h⟩
  · exact .inl h
  · refine .inr ⟨x, hx, fun j hj => ?_⟩
    rw [hb.cell (block_lt_of_cell (h j hj))]
    exact h j hj

theorem splice_row (w : World) (G c len : Nat) (zs : Nat → Int) (hl : len ≤ c) (h : w.heap[G]? = some (.cells (splice (laid0 c) 0 (zcs len zs)).toArray 3 (0, 0))) : w.rowIs G 3 c (copied len zs) := by
  refine ⟨_, h, ?_, fun i hi => ?_⟩
  · rw [List.size_toArray, length_splice _ _ _ (by rw [zcs_length, laid0_length]; omega), laid0_length]
  · rw [List.getElem?_toArray]
    simp only [splice, List.take_zero, List.nil_append, Nat.zero_add, zcs_length]
    unfold copied
    by_cases e : i < len
    · rw [if_pos e, List.getElem?_append_left (by rw [zcs_length]; exact e), zcs_at _ _ _ e]
    · rw [if_neg e, List.getElem?_append_right (by rw [zcs_length]; omega), zcs_length, List.getElem?_drop, show len + (i - len) = i by omega, laid0_at _ _ hi]

/-- WHAT THE LAST LOOPS READ -/
structure Reads (a0 : Option Addr) (len0 G c : Nat) (zs : Nat → Int) (f : Nat → Value) (w W : World) : Prop where
  src : Src a0 len0 zs W
  row : W.rowIs G 3 c f
  below : Below w.heap.size w W
theorem Reads.drewN {a0 : Option Addr} {len0 G c : Nat} {zs : Nat → Int} {f : Nat → Value} {w W : World} (h : Reads a0 len0 G c zs f w W) (n : Nat) : Reads a0 len0 G c zs f w (W.drewN n) :=
  ⟨h.src, h.row, ⟨h.below.os, h.below.tape, h.below.output, h.below.size, h.below.block⟩⟩

set_option maxHeartbeats 2000000 in
set_option maxRecDepth 100000 in
theorem shape_reuse (a0 : Option Addr) (len0 cap0 : Nat) (zs : Nat → Int) (e n : Nat) (w : World) (hlen : len0 ≤ 1024) (he : e < 256) (hn : n ≤ 1024) (hc : n ≤ len0 + e) (hS : Src a0 len0 zs w) :
    Calls Yba.prog 3 #[.slice a0 len0 cap0, .int .u8 (e : Int), .int .i64 (n : Int)] w fun e w' => e = .returned (.bool true) ∧ Below w.heap.size w w' := by
  have hmk := make_row w len0 (len0 + e) (by omega) (by omega)
  have HW1 : Hid ((w.alloc (.cells (madeCells #[.int .i64 0] (len0 + e)) 3)).heap[w.heap.size]? = some (.cells (laid0 (len0 + e)).toArray 3 (0, 0))) := by
    show _ = _
    unfold laid0
    rw [Array.toArray_toList]
    exact heap_alloc_new w _
  have HPOS : Hid (0 < (zcs len0 zs).length → (some ⟨w.heap.size, 0, none⟩ : Option Addr) = some ⟨w.heap.size, 0, none⟩ ∧ ∃ ad, a0 = some ad ∧ ∀ j v, (zcs len0 zs)[j]? = some v → (w.alloc (.cells (madeCells #[.int .i64 0] (len0 + e)) 3)).cell? (ad.add j) = some v) := by
    intro h0
    rw [zcs_length] at h0
    refine ⟨rfl, ?_⟩
    rcases hS.below ((Below.refl _ w).alloc (Nat.le_refl _) (.cells (madeCells #[.int .i64 0] (len0 + e)) 3)) with h | ⟨x, hx, h⟩
    · omega
    · refine ⟨x, hx, fun j v hv => ?_⟩
      have hj : j < len0 := by
        rcases Nat.lt_or_ge j len0 with h' | h'
        · exact h'
        · rw [List.getElem?_eq_none (by rw [zcs_length]; exact h')] at hv; cases hv
      rw [zcs_at _ _ _ hj] at hv
      injection hv with hv
      rw [← hv]; exact h j hj
  have HB1 : Hid (Below w.heap.size w (w.alloc (.cells (madeCells #[.int .i64 0] (len0 + e)) 3))) := (Below.refl _ w).alloc (Nat.le_refl _) _
  have hcast : ((len0 + e : Nat) : Int) = (len0 : Int) + (e : Int) := by omega
  rw [hcast] at hmk
  have b1 : (len0 : Int) ≤ 1024 := by omega
  have b2 : (0 : Int) ≤ (len0 : Int) := by omega
  have b3 : (0 : Int) ≤ (e : Int) := by omega
  have b4 : (e : Int) < 256 := by omega
  have b5 : (0 : Int) ≤ (n : Int) := by omega
  have b6 : (n : Int) ≤ 1024 := by omega
  have b7 : (n : Int) ≤ (len0 : Int) + (e : Int) := by omega
  go_enter Yba.func3, Yba.ntmps3
  go_wp2_with (first | (refine wpList_copy_splice rfl _ _ _ _ rfl 3 Yba.underlying22 info3s _ _ _ _ _ _ rfl rfl w.heap.size 0 (laid0 (len0 + e)) 3 HW1.out (zcs len0 zs) (by rw [zcs_length]; exact (Nat.min_self _).symm) HPOS.out (by rw [zcs_length, laid0_length]; omega) (zcs_one _ _) w.heap.size w HB1.out (Nat.le_refl _) ?_; intro w2 HG2 hB2) | fail)
  have hrow2 := splice_row w2 w.heap.size (len0 + e) len0 zs (by omega) HG2.out
  refine (resize_reuse w.heap.size w.heap.size len0 (len0 + e) n (copied len0 zs) w2 (Nat.le_refl _) hc (by omega) hrow2).mono ?_
  rintro e' w3 ⟨rfl, hrow3, hB3⟩
  have HR : Hid (Reads a0 len0 w.heap.size (len0 + e) zs (cleared n (copied len0 zs)) w w3) := by
    have hb : Below w.heap.size w w3 := hB2.trans hB3
    exact ⟨hS.below hb, hrow3, hb⟩
  clear hrow2 hrow3 hB2 hB3 HG2 hmk HW1 HPOS HB1 hS
  go_wp2_with fail
  go_loop [10] (fun i => ∃ k : Nat, k ≤ n ∧ i = .int .i64 k) (fun i => n - (intOf i).toNat)
  case atStart => exact ⟨0, Nat.zero_le _, rfl⟩
  case round =>
    obtain ⟨k, hk, rfl⟩ := hrel
    by_cases hlt : k < n
    · have hcell : w3.cell? ⟨w.heap.size, k, none⟩ = some (.int .i64 0) := by
        rw [HR.out.row.cell (by omega)]; simp [cleared, hlt]
      have k1 : (k : Int) < (n : Int) := by omega
      have k0 : (0 : Int) ≤ (k : Int) := by omega
      go_wp2_with fail
      go_round
      case rel => exact ⟨k + 1, by omega, by go_num⟩
      case measure => simp [intOf]; omega
    · obtain rfl : k = n := by omega
      have k1 : ¬ ((k : Int) < (k : Int)) := by omega
      by_cases hpos : 0 < k
      · have p1 : (0 : Int) < (k : Int) := by omega
        have p2 : decide ((0 : Int) < (k : Int)) = true := by simpa using hpos
        have p3 : (1 : Int) ≤ (len0 : Int) + (e : Int) := by omega
        have p4 := neq_ptr ⟨w.heap.size, 0, none⟩
        have p5 := same_ptr ⟨w.heap.size, 0, none⟩
        go_wp2_with fail
        go_quiet (fail)
        have HR4 : Hid (Reads a0 len0 w.heap.size (len0 + e) zs (cleared k (copied len0 zs)) w (w3.drewN nq)) := HR.out.drewN nq
        generalize w3.drewN nq = w4 at HR4 ⊢
        go_wp2_with fail
        go_loopw [11] (fun i wr => ∃ m : Nat, k ≤ m ∧ i = .int .i64 m ∧ Hid (Reads a0 len0 w.heap.size (len0 + e) zs (cleared k (copied len0 zs)) w wr)) (fun i _ => 2048 - (intOf i).toNat)
        case atStart => exact ⟨k, Nat.le_refl _, rfl, HR4.out⟩
        case round =>
          obtain ⟨m, hm, rfl, HRm⟩ := hrel
          by_cases hml : m < len0
          · obtain ⟨x, rfl, hx⟩ : ∃ x, a0 = some x ∧ wr.cell? (x.add m) = some (.int .i64 (zs m)) := by
              rcases HRm.out.src with h | ⟨x, hx, h⟩
              · omega
              · exact ⟨x, hx, h m hml⟩
            have hcell : wr.cell? ⟨w.heap.size, m, none⟩ = some (.int .i64 (zs m)) := by
              rw [HRm.out.row.cell (by omega)]; simp [cleared, copied, hml]; omega
            have m1 : (m : Int) < (len0 : Int) := by omega
            have m0 : (0 : Int) ≤ (m : Int) := by omega
            go_wp2_with fail
            go_quiet (fail)
            have HR5 := HRm.out.drewN nq
            generalize wr.drewN nq = w5 at HR5 ⊢
            go_wp2_with fail
            go_roundw
            case rel => exact ⟨m + 1, by omega, by go_num, HR5⟩
            case measure => simp [intOf]; omega
          · have m1 : ¬ ((m : Int) < (len0 : Int)) := by omega
            go_wp2_with fail
            go_ret
            exact ⟨rfl, HRm.out.below⟩
      · have p1 : ¬ ((0 : Int) < (k : Int)) := by omega
        have p2 : decide ((0 : Int) < (k : Int)) = false := by simpa using hpos
        go_wp2_with fail
        go_quiet (fail)
        have HR4 : Hid (Reads a0 len0 w.heap.size (len0 + e) zs (cleared k (copied len0 zs)) w (w3.drewN nq)) := HR.out.drewN nq
        generalize w3.drewN nq = w4 at HR4 ⊢
        go_wp2_with fail
        go_loopw [11] (fun i wr => ∃ m : Nat, k ≤ m ∧ i = .int .i64 m ∧ Hid (Reads a0 len0 w.heap.size (len0 + e) zs (cleared k (copied len0 zs)) w wr)) (fun i _ => 2048 - (intOf i).toNat)
        case atStart => exact ⟨k, Nat.le_refl _, rfl, HR4.out⟩
        case round =>
          obtain ⟨m, hm, rfl, HRm⟩ := hrel
          by_cases hml : m < len0
          · obtain ⟨x, rfl, hx⟩ : ∃ x, a0 = some x ∧ wr.cell? (x.add m) = some (.int .i64 (zs m)) := by
              rcases HRm.out.src with h | ⟨x, hx, h⟩
              · omega
              · exact ⟨x, hx, h m hml⟩
            have hcell : wr.cell? ⟨w.heap.size, m, none⟩ = some (.int .i64 (zs m)) := by
              rw [HRm.out.row.cell (by omega)]; simp [cleared, copied, hml]; omega
            have m1 : (m : Int) < (len0 : Int) := by omega
            have m0 : (0 : Int) ≤ (m : Int) := by omega
            go_wp2_with fail
            go_quiet (fail)
            have HR5 := HRm.out.drewN nq
            generalize wr.drewN nq = w5 at HR5 ⊢
            go_wp2_with fail
            go_roundw
            case rel => exact ⟨m + 1, by omega, by go_num, HR5⟩
            case measure => simp [intOf]; omega
          · have m1 : ¬ ((m : Int) < (len0 : Int)) := by omega
            go_wp2_with fail
            go_ret
            exact ⟨rfl, HRm.out.below⟩
set_option maxHeartbeats 2000000 in
set_option maxRecDepth 100000 in
theorem shape_fresh (a0 : Option Addr) (len0 cap0 : Nat) (zs : Nat → Int) (e n : Nat) (w : World) (hlen : len0 ≤ 1024) (he : e < 256) (hn : n ≤ 1024) (hc : len0 + e < n) (hS : Src a0 len0 zs w) :
    Calls Yba.prog 3 #[.slice a0 len0 cap0, .int .u8 (e : Int), .int .i64 (n : Int)] w fun e w' => e = .returned (.bool true) ∧ Below w.heap.size w w' := by
  have hmk := make_row w len0 (len0 + e) (by omega) (by omega)
  have HW1 : Hid ((w.alloc (.cells (madeCells #[.int .i64 0] (len0 + e)) 3)).heap[w.heap.size]? = some (.cells (laid0 (len0 + e)).toArray 3 (0, 0))) := by
    show _ = _
    unfold laid0
    rw [Array.toArray_toList]
    exact heap_alloc_new w _
  have HPOS : Hid (0 < (zcs len0 zs).length → (some ⟨w.heap.size, 0, none⟩ : Option Addr) = some ⟨w.heap.size, 0, none⟩ ∧ ∃ ad, a0 = some ad ∧ ∀ j v, (zcs len0 zs)[j]? = some v → (w.alloc (.cells (madeCells #[.int .i64 0] (len0 + e)) 3)).cell? (ad.add j) = some v) := by
    intro h0
    rw [zcs_length] at h0
    refine ⟨rfl, ?_⟩
    rcases hS.below ((Below.refl _ w).alloc (Nat.le_refl _) (.cells (madeCells #[.int .i64 0] (len0 + e)) 3)) with h | ⟨x, hx, h⟩
    · omega
    · refine ⟨x, hx, fun j v hv => ?_⟩
      have hj : j < len0 := by
        rcases Nat.lt_or_ge j len0 with h' | h'
        · exact h'
        · rw [List.getElem?_eq_none (by rw [zcs_length]; exact h')] at hv; cases hv
      rw [zcs_at _ _ _ hj] at hv
      injection hv with hv
      rw [← hv]; exact h j hj
  have HB1 : Hid (Below w.heap.size w (w.alloc (.cells (madeCells #[.int .i64 0] (len0 + e)) 3))) := (Below.refl _ w).alloc (Nat.le_refl _) _
  have hcast : ((len0 + e : Nat) : Int) = (len0 : Int) + (e : Int) := by omega
  rw [hcast] at hmk
  have b1 : (len0 : Int) ≤ 1024 := by omega
  have b2 : (0 : Int) ≤ (len0 : Int) := by omega
  have b3 : (0 : Int) ≤ (e : Int) := by omega
  have b4 : (e : Int) < 256 := by omega
  have b5 : (0 : Int) ≤ (n : Int) := by omega
  have b6 : (n : Int) ≤ 1024 := by omega
  have b7 : ¬ ((n : Int) ≤ (len0 : Int) + (e : Int)) := by omega
  go_enter Yba.func3, Yba.ntmps3
  go_wp2_with (first | (refine wpList_copy_splice rfl _ _ _ _ rfl 3 Yba.underlying22 info3s _ _ _ _ _ _ rfl rfl w.heap.size 0 (laid0 (len0 + e)) 3 HW1.out (zcs len0 zs) (by rw [zcs_length]; exact (Nat.min_self _).symm) HPOS.out (by rw [zcs_length, laid0_length]; omega) (zcs_one _ _) w.heap.size w HB1.out (Nat.le_refl _) ?_; intro w2 HG2 hB2) | fail)
  have hrow2 := splice_row w2 w.heap.size (len0 + e) len0 zs (by omega) HG2.out
  refine (resize_fresh w.heap.size len0 (len0 + e) n w2 hc (by omega)).mono ?_
  rintro e' w3 ⟨rfl, hw3⟩
  have hlt2 : w.heap.size < w2.heap.size := hrow2.lt
  have HR : Hid (Reads a0 len0 w.heap.size (len0 + e) zs (copied len0 zs) w w3) := by
    have hb : Below w.heap.size w w3 := by rw [hw3]; exact hB2.alloc (by omega) _
    exact ⟨hS.below hb, by rw [hw3]; exact hrow2.alloc _, hb⟩
  have HZ : Hid (∀ j, j < n → w3.cell? ⟨w2.heap.size, j, none⟩ = some (.int .i64 0)) := by
    intro j hj
    rw [hw3]
    exact (World.rowIs_made w2 (.int .i64 0) n 3).cell hj
  clear hrow2 hB2 HG2 hmk HW1 HPOS HB1 hS hw3
  go_wp2_with fail
  go_loop [10] (fun i => ∃ k : Nat, k ≤ n ∧ i = .int .i64 k) (fun i => n - (intOf i).toNat)
  case atStart => exact ⟨0, Nat.zero_le _, rfl⟩
  case round =>
    obtain ⟨k, hk, rfl⟩ := hrel
    by_cases hlt : k < n
    · have hcell : w3.cell? ⟨w2.heap.size, k, none⟩ = some (.int .i64 0) := HZ.out k hlt
      have k1 : (k : Int) < (n : Int) := by omega
      have k0 : (0 : Int) ≤ (k : Int) := by omega
      go_wp2_with fail
      go_round
      case rel => exact ⟨k + 1, by omega, by go_num⟩
      case measure => simp [intOf]; omega
    · obtain rfl : k = n := by omega
      have k1 : ¬ ((k : Int) < (k : Int)) := by omega
      go_wp2_with fail
      go_loopw [12] (fun i wr => ∃ m : Nat, i = .int .i64 m ∧ Hid (Reads a0 len0 w.heap.size (len0 + e) zs (copied len0 zs) w wr)) (fun i _ => 2048 - (intOf i).toNat)
      case atStart => exact ⟨0, rfl, HR.out⟩
      case round =>
        obtain ⟨m, rfl, HRm⟩ := hrel
        by_cases hml : m < len0
        · obtain ⟨x, rfl, hx⟩ : ∃ x, a0 = some x ∧ wr.cell? (x.add m) = some (.int .i64 (zs m)) := by
            rcases HRm.out.src with h | ⟨x, hx, h⟩
            · omega
            · exact ⟨x, hx, h m hml⟩
          have hcell : wr.cell? ⟨w.heap.size, m, none⟩ = some (.int .i64 (zs m)) := by
            rw [HRm.out.row.cell (by omega)]; simp [copied, hml]
          have m1 : (m : Int) < (len0 : Int) := by omega
          have m0 : (0 : Int) ≤ (m : Int) := by omega
          go_wp2_with fail
          go_quiet (fail)
          have HR5 := HRm.out.drewN nq
          generalize wr.drewN nq = w5 at HR5 ⊢
          go_wp2_with fail
          go_roundw
          case rel => exact ⟨m + 1, by go_num, HR5⟩
          case measure => simp [intOf]; omega
        · have m1 : ¬ ((m : Int) < (len0 : Int)) := by omega
          go_wp2_with fail
          go_ret
          exact ⟨rfl, HRm.out.below⟩

/-- the ways that return true at once -/
theorem shape_out (a0 : Option Addr) (len0 cap0 : Nat) (e n : Int) (w : World) (h : 1024 < len0 ∨ n < 0 ∨ 1024 < n) :
    Calls Yba.prog 3 #[.slice a0 len0 cap0, .int .u8 e, .int .i64 n] w fun e w' => e = .returned (.bool true) ∧ Below w.heap.size w w' := by
  have h' : ¬ (((len0 : Int) ≤ 1024 ∧ 0 ≤ n) ∧ n ≤ 1024) := by omega
  have h2 : (1024 < (len0 : Int) ∨ n < 0) ∨ 1024 < n := by omega
  go_enter Yba.func3, Yba.ntmps3
  go_wp2_with fail
  all_goals first | (exfalso; simp at *; omega) | (go_ret; exact ⟨rfl, Below.refl _ _⟩)
end Go.Proofs.Ybulkhzu
