/- THE WALK OF LawS0433CRoundTrip. -/
import Derived.Test.YbulkhyeDoorParse
import Derived.Deep.RegionHeld3
import Derived.Deep.AppendLies
import Derived.Deep.DrawnRows
import Derived.Laws.MakeOwn
import Derived.Laws.BitsAllLaws
import Derived.Deep.WholeRow
import Derived.Lib.FrozenHead
namespace Go.Proofs.YbulkhyeDoor
open Go.RowKit

theorem info5 : (Ybad.prog.info? 5).map (fun i => (i.zero, i.size, i.bytes)) = some (some (.int .u8 0), 1, 1) := by kernel_rfl
theorem make64 (w : World) : (Instr.makeSlice 23 (.int .i64 0) (.int .i64 64)).run Ybad.prog w = .ok (.slice (some ⟨w.heap.size, 0, none⟩) 0 64) (w.alloc (.cells (madeCells #[.int .u8 0] 64) 5)) := by
  obtain ⟨i0, hi, hz0, hz1, hz2⟩ := info_parts info5
  have := run_make (P := Ybad.prog) w 23 5 i0 _ Ybad.underlying23 hi hz0 .i64 .i64 0 64 (by omega) (by omega) (by rw [hz2]; omega) (by omega)
  rw [hz1] at this
  simpa [Value.cells] using this

theorem and15 (x : Int) (h0 : 0 ≤ x) (h1 : x < 256) : bits .and .u8 x 15 = x % 16 := by
  rw [u8_and x 15 h0 h1 (by omega) (by omega)]
  show ((x.toNat &&& 15 : Nat) : Int) = _
  rw [nat_mask4]; omega

theorem tab_at (d : Nat) (h : d < (⟨#[48, 49, 50, 51, 52, 53, 54, 55, 56, 57, 97, 98, 99, 100, 101, 102]⟩ : ByteArray).size) :
    (⟨#[48, 49, 50, 51, 52, 53, 54, 55, 56, 57, 97, 98, 99, 100, 101, 102]⟩ : ByteArray)[d] = Lib.Hx.digit d := by
  have h' : d < ([48, 49, 50, 51, 52, 53, 54, 55, 56, 57, 97, 98, 99, 100, 101, 102] : List UInt8).length := h
  show _ = ([48, 49, 50, 51, 52, 53, 54, 55, 56, 57, 97, 98, 99, 100, 101, 102] : List UInt8)[d]?.getD 0
  rw [List.getElem?_eq_getElem h']
  rfl

theorem encode_snoc (bs : List UInt8) (k : Nat) (h : k < bs.length) : Lib.Hx.encode (bs.take (k + 1)) = Lib.Hx.encode (bs.take k) ++ [Lib.Hx.digit (bs[k].toNat / 16), Lib.Hx.digit (bs[k].toNat % 16)] := by
  rw [List.take_succ_eq_append_getElem h]
  simp only [Lib.Hx.encode, List.flatMap_append, List.flatMap_cons, List.flatMap_nil, List.append_nil]

theorem snoc_cells (bs : List UInt8) (k : Nat) (h : k < bs.length) (x : Int) (hx : x = (bs[k].toNat : Int)) (_hx0 : 0 ≤ x) {h1 : (x / 16).toNat < (⟨#[48, 49, 50, 51, 52, 53, 54, 55, 56, 57, 97, 98, 99, 100, 101, 102]⟩ : ByteArray).size} {h2 : (x % 16).toNat < (⟨#[48, 49, 50, 51, 52, 53, 54, 55, 56, 57, 97, 98, 99, 100, 101, 102]⟩ : ByteArray).size} :
    Lib.byteCells (Lib.Hx.encode (bs.take k)) ++ #[Value.int .u8 (((⟨#[48, 49, 50, 51, 52, 53, 54, 55, 56, 57, 97, 98, 99, 100, 101, 102]⟩ : ByteArray)[(x / 16).toNat]'h1).toNat : Int), Value.int .u8 (((⟨#[48, 49, 50, 51, 52, 53, 54, 55, 56, 57, 97, 98, 99, 100, 101, 102]⟩ : ByteArray)[(x % 16).toNat]'h2).toNat : Int)].toList
      = Lib.byteCells (Lib.Hx.encode (bs.take (k + 1))) := by
  rw [encode_snoc bs k h, Lib.byteCells_append, tab_at, tab_at, show (x / 16).toNat = bs[k].toNat / 16 by omega, show (x % 16).toNat = bs[k].toNat % 16 by omega]
  rfl

theorem digit_fin : ∀ d : Fin 16, hexB ((Lib.Hx.digit d.val).toNat : Int) = true ∧ dig ((Lib.Hx.digit d.val).toNat : Int) = (d.val : Int) := by decide +kernel
theorem digit_hex (d : Nat) (h : d < 16) : hexB ((Lib.Hx.digit d).toNat : Int) = true ∧ dig ((Lib.Hx.digit d).toNat : Int) = (d : Int) := digit_fin ⟨d, h⟩

/-- the text of bs, parsed: it is in order, and it gives bs back -/
theorem round_plain (bs : List UInt8) (hl : bs.length = 32) : okH ⟨(Lib.Hx.encode bs).toArray⟩ = true ∧ hval ⟨(Lib.Hx.encode bs).toArray⟩ = (Lib.byteCells bs).toArray := by
  have hsat : ∀ i, (h : i < 32) → sat ⟨(Lib.Hx.encode bs).toArray⟩ (2 * i) = ((Lib.Hx.digit ((bs[i]'(by omega)).toNat / 16)).toNat : Int) ∧ sat ⟨(Lib.Hx.encode bs).toArray⟩ (2 * i + 1) = ((Lib.Hx.digit ((bs[i]'(by omega)).toNat % 16)).toNat : Int) := by
    intro i h
    obtain ⟨h1, h2⟩ := Lib.Hx.encode_at bs i (bs[i]'(by omega)) (List.getElem?_eq_getElem (by omega))
    exact ⟨by simp [sat, h1], by simp [sat, h2]⟩
  have hlt : ∀ i, (h : i < 32) → (bs[i]'(by omega)).toNat < 256 := fun i h => (bs[i]'(by omega)).toNat_lt
  have hok : okH ⟨(Lib.Hx.encode bs).toArray⟩ = true := by
    refine (okH_iff _).2 ⟨?_, fun i hi => ?_⟩
    · show (Lib.Hx.encode bs).toArray.size = 64
      rw [List.size_toArray, Lib.Hx.encode_length]; omega
    · have hb := hlt (i / 2) (by omega)
      obtain ⟨e1, e2⟩ := hsat (i / 2) (by omega)
      rcases Nat.mod_two_eq_zero_or_one i with h | h
      · rw [show i = 2 * (i / 2) by omega, e1]; exact (digit_hex _ (by omega)).1
      · rw [show i = 2 * (i / 2) + 1 by omega, e2]; exact (digit_hex _ (by omega)).1
  refine ⟨hok, ?_⟩
  rw [hval_good hok]
  apply Array.ext_getElem?
  intro i
  by_cases hi : i < 32
  · have hb' := hlt i hi
    obtain ⟨e1, e2⟩ := hsat i hi
    rw [hcells_at _ i hi]
    simp only [Lib.byteCells, List.getElem?_toArray, List.getElem?_map, List.getElem?_eq_getElem (show i < bs.length by omega), Option.map_some, Option.some.injEq, Value.int.injEq, true_and]
    unfold hb
    rw [e1, e2, (digit_hex _ (by omega)).2, (digit_hex _ (by omega)).2]
    omega
  · rw [Array.getElem?_eq_none (by rw [hcells_size]; omega), Array.getElem?_eq_none (by simp [Lib.byteCells_length]; omega)]

theorem loadCells_row (W : World) (b : Nat) (C : Array Value) (t : TypeId) (fr : Nat × Nat) (hC : C.size = 32) (hg : W.heap[b]? = some (.cells C t fr)) : (loadCellsFrom ⟨b, 0, none⟩ 0 32 #[]).run Ybad.prog W = .ok C W := by
  have := run_loadCells_list (P := Ybad.prog) W ⟨b, 0, none⟩ C.toList (fun j v hv => by
    have hadd : (⟨b, 0, none⟩ : Addr).add j = ⟨b, j, none⟩ := by unfold Addr.add; split <;> simp_all
    rw [hadd, cell_of_row _ _ j C t fr hg]
    simpa using hv)
  rw [← hC]
  simpa [loadCells] using this

theorem plain5 : Ybad.prog.plainKey 5 = true := by kernel_rfl
theorem cells5 : Ybad.prog.cellsOf 5 = 1 := by kernel_rfl
/-- '==' of an array of bytes with itself -/
theorem eqItems_same (d : Nat) (C : Array Value) (hC : ∀ j, j < 32 → ∃ a, C[j]? = some (.int .u8 a)) (w : World) : ∀ is : List Nat, (∀ j ∈ is, j < 32) → (Op.eqItems (d + 1) 5 1 C C is).run Ybad.prog w = .ok true w
  | [], _ => by simp [Op.eqItems]
  | j :: is, h => by
    obtain ⟨a, ha⟩ := hC j (h j (by simp))
    have hp : (part 5 C (j * 1)).run Ybad.prog w = .ok (.int .u8 a) w := run_part_plain w plain5 (by rw [Nat.mul_one]; exact ha)
    simp only [Op.eqItems, Sem.run_bind, hp, Result.andThen_ok, run_equalIn_int (P := Ybad.prog) w d 5 .u8 .u8 a a Ybad.underlying5, beq_self_eq_true, Bool.not_true, Bool.false_eq_true, if_false]
    exact eqItems_same d C hC w is (fun i hi => h i (by simp [hi]))
theorem eq_same (C : Array Value) (hC : ∀ j, j < 32 → ∃ a, C[j]? = some (.int .u8 a)) (w : World) : (Op.equalIn 10000 22 (.agg C) (.agg C)).run Ybad.prog w = .ok true w := by
  obtain ⟨i0, hi, _⟩ := info_parts info5
  rw [run_equalIn_array w 9999 C C Ybad.underlying22 hi, cells5]
  exact eqItems_same 9998 C hC w _ (fun j hj => by simpa using hj)

/-- a whole array out of its block, the load's guard being met -/
theorem wpList_load_met {ops : Array Oper} {rest : List Oper} {o : Oper} {a : Act} {w : World} {Q : Exit → Act → World → Prop} (hwant : Region.wanted o (yielded ops a.tmps) = true) (x : Operand) (ho : o.op = .load 22 x)
    (g : Nat) (hx : a.eval x = .pointer (some ⟨g, 0, none⟩)) (t : TypeId) (cs : Array Value) (fr : Nat × Nat) (hg : w.heap[g]? = some (.cells cs t fr)) (hcs : cs.size = 32)
    (h : wpList Ybad.prog ops Q rest (a.put o.dst (.agg cs)) w) : wpList Ybad.prog ops Q (o :: rest) a w := by
  refine wpList_step fun K hK => ?_
  rw [if_pos hwant]
  exact wp_load_row 22 x ho g hx t cs fr _ hg Ybad.underlying22 rfl (by rw [hcs]; exact info22) (hK _ _ h)

set_option maxHeartbeats 2000000 in
set_option maxRecDepth 100000 in
theorem round_any (bs : List UInt8) (hl : bs.length = 32) (ev : Value) (w : World) (hE : w.cell? ⟨0, 0, none⟩ = some ev) :
    Calls Ybad.prog 3 #[.agg (Lib.byteCells bs).toArray] w fun e w' => e = .returned (.bool true) ∧ Below w.heap.size w w' := by
  obtain ⟨i0, hi0, hz0, hz1, hz2⟩ := info_parts info5
  have hmk := make64
  have hcs : (Lib.byteCells bs).toArray.size = 32 := by simp [Lib.byteCells_length, hl]
  generalize hC : (Lib.byteCells bs).toArray = C at hcs ⊢
  go_enter Ybad.func3, Ybad.ntmps3
  go_wp2_with fail
  clear hmk
  go_loopw [3, 4] (fun v i wr => ∃ k : Nat, k ≤ 32 ∧ i = .int .i64 k ∧ ∃ g cap, v = .slice (some ⟨g, 0, none⟩) (2 * k) cap ∧ w.heap.size < g ∧ Hid (wr.ownsRow (w.heap.size + 1) 5 1 (.slice (some ⟨g, 0, none⟩) (2 * k) cap) (2 * k) (Lib.byteCells (Lib.Hx.encode (bs.take k)))) ∧ Hid (Below (w.heap.size + 1) (w.alloc (.cells C 22)) wr)) (fun _ i _ => 32 - (intOf i).toNat)
  case atStart =>
    refine ⟨0, Nat.zero_le _, rfl, w.heap.size + 1, 64, rfl, by omega, ?_, (Below.refl _ _).alloc (by simp) _⟩
    have := World.ownsRow_made (w := w.alloc (.cells C 22)) (base := w.heap.size + 1) (e := 5) (size := 1) (madeCells #[.int .u8 0] 64) 64 (by simp) (by unfold maxLen; omega) (size_madeCells _ _)
    show World.ownsRow _ _ _ _ _ _ _
    simpa [Lib.Hx.encode, Lib.byteCells] using this
  case round =>
    obtain ⟨k, hk, rfl, g, cap, rfl, hg, HO, HB⟩ := hrel
    by_cases hlt : k < 32
    · have hcell : wr.cell? ⟨w.heap.size, k, none⟩ = some (.int .u8 (bs[k]'(by omega)).toNat) := by
        rw [HB.out.cell (p := ⟨w.heap.size, k, none⟩) (by show w.heap.size < w.heap.size + 1; omega), cell_of_row _ _ k C 22 (0, 0) (heap_alloc_new w _), ← hC]
        simp [Lib.byteCells, hl, hlt]
      obtain ⟨x, hx⟩ : ∃ x : Int, x = ((bs[k]'(by omega)).toNat : Int) := ⟨_, rfl⟩
      rw [← hx] at hcell
      have hx0 : 0 ≤ x := by omega
      have hx1 : x < 256 := by have := (bs[k]'(by omega)).toNat_lt; omega
      have hk0 : (0 : Int) ≤ (k : Int) := by omega
      have hk1 : (k : Int) < 32 := by omega
      have hq0 : 0 ≤ x / 16 := by omega
      have hq1 : x / 16 < 16 := by omega
      have hm0 : 0 ≤ x % 16 := by omega
      have hm1 : x % 16 < 16 := by omega
      have hand := and15 x hx0 hx1
      have hbk : w.heap.size < wr.heap.size := by have := HB.out.size; simp at this; omega
      have HX : Hid (x = ((bs[k]'(by omega)).toNat : Int)) := hx
      clear hx
      go_wp2_with fail
      go_region_held3 (fun w' => w'.cell? ⟨w.heap.size, k, none⟩ = some (.int .u8 x)) (first | go_keep | (rw [hgrow.cell_far _ (by simp; omega) (by simp [Value.ownBlock]; omega)]; assumption))
        ((refine step_append_lies _ (by rfl) _ _ _ (by rfl) (w.heap.size + 1) 5 i0 _ 1 1 Ybad.underlying23 hi0 hz0 hz1 hz2 rfl (by omega) _ (2 * k) _ (by rfl) ((HO.out.alloc _).drew) ⟨wr.heap.size, 0, none⟩ 2 2 _ (by rfl) (by rfl) (World.news_of_block (t := 5) (fr := (0, 0)) (heap_alloc_new wr _)) (by simp [Value.oneCell']) (by omega) (by unfold maxLen; omega) (by omega) (by simp; omega) (wr.heap.size + 1) (by simp) ?_; intro gg cap1 w1 hown1 hgrow hat hlt1))
      all_goals
        rw [snoc_cells bs k (by omega) x HX.out hx0] at hown1
        have hB1 : Below (w.heap.size + 1) (w.alloc (.cells C 22)) w1 := ((HB.out.alloc (by omega) _).drew).grown hgrow (by simp; omega) (fun j hj => by simp [Value.ownBlock] at hj; omega)
        have hgg : w.heap.size < gg := by
          rcases hat with h | h
          · have e : g = gg := by simpa [Value.ownBlock] using h
            omega
          · omega
        have HO1 : Hid (w1.ownsRow (w.heap.size + 1) 5 1 (.slice (some ⟨gg, 0, none⟩) (2 * (k + 1)) cap1) (2 * (k + 1)) (Lib.byteCells (Lib.Hx.encode (bs.take (k + 1))))) := hown1
        have HB1 : Hid (Below (w.heap.size + 1) (w.alloc (.cells C 22)) w1) := hB1
        clear hown1 hgrow hB1 hat hand
        go_wp2
        go_roundw
        case rel => exact ⟨k + 1, by omega, by go_num, gg, cap1, rfl, hgg, HO1.out, HB1.out⟩
        case measure => simp [intOf]; omega
    · obtain rfl : k = 32 := by omega
      have htk : bs.take 32 = bs := List.take_of_length_le (by omega)
      have hel : (Lib.Hx.encode bs).length = 64 := by rw [Lib.Hx.encode_length]; omega
      have hcv := run_convert_bytes_back (P := Ybad.prog) wr 23 9 5 ⟨g, 0, none⟩ cap (Lib.Hx.encode bs) Ybad.underlying23 Ybad.underlying5 Ybad.underlying9 (fun j hj => by
        have h1 := HO.out
        rw [htk] at h1
        rw [Addr.add_lit, Nat.zero_add]
        have h2 := h1.cells (g := g) rfl j (.int .u8 ((Lib.Hx.encode bs)[j].toNat : Int)) (by simp [Lib.byteCells, hj])
        rw [Addr.add_lit, Nat.zero_add] at h2
        exact h2)
      rw [hel] at hcv
      obtain ⟨hok, hhv⟩ := round_plain bs hl
      have hsz : (⟨(Lib.Hx.encode bs).toArray⟩ : ByteArray).size ≤ maxLen := by show (Lib.Hx.encode bs).toArray.size ≤ maxLen; rw [List.size_toArray, hel]; unfold maxLen; omega
      rw [hC] at hhv
      generalize (⟨(Lib.Hx.encode bs).toArray⟩ : ByteArray) = S at hcv hok hhv hsz
      have hE4 : wr.cell? ⟨0, 0, none⟩ = some ev := by
        have h0 : 0 < w.heap.size := block_lt_of_cell hE
        rw [HB.out.cell (p := ⟨0, 0, none⟩) (by show 0 < w.heap.size + 1; omega)]
        exact (((Below.refl _ w).alloc (Nat.le_refl _) _).cell (p := ⟨0, 0, none⟩) h0).trans hE
      have hc5 : ∀ j, j < 32 → ∃ a, C[j]? = some (.int .u8 a) := fun j hj => by
        rw [← hC]
        exact ⟨((bs[j]'(by omega)).toNat : Int), by simp [Lib.byteCells, hl, hj]⟩
      have heq := eq_same C hc5
      have hone : C.all (·.oneCell') = true := by
        rw [Array.all_eq_true_iff_forall_mem]
        intro v hv
        obtain ⟨j, hj, rfl⟩ := Array.mem_iff_getElem.1 hv
        obtain ⟨a, ha⟩ := hc5 j (by omega)
        rw [Array.getElem?_eq_getElem hj] at ha
        injection ha with ha
        rw [ha]; rfl
      have hbw : w.heap.size + 1 ≤ wr.heap.size := by have := HB.out.size; simp at this; omega
      have HONE : Hid (C.all (·.oneCell') = true) := hone
      clear hc5 hone
      go_wp2_with fail
      refine (parse_any S ev _ hsz hE4).mono ?_
      rintro e w4 ⟨rfl, hb4⟩
      rw [hhv, hok]
      have hg1 : (w4.alloc (.cells C 22)).heap[w.heap.size]? = some (.cells C 22 (0, 0)) := by
        rw [Below.heap_alloc _ _ _ (by have := hb4.size; omega), hb4.block _ (by omega), HB.out.block _ (by omega)]
        exact heap_alloc_new w _
      have HB4 : Hid (Below w.heap.size w w4) := ((((Below.refl _ w).alloc (Nat.le_refl _) _).trans (HB.out.mono (by omega))).trans (hb4.mono (by omega)))
      clear hb4 hcv hok hhv hsz hE4
      go_wp2_with (first | (refine wpList_store_row rfl 22 _ _ rfl _ C rfl rfl 22 zcells (heap_alloc_new w4 _) (by rw [hcs]; exact info22) (by rw [hcs]; rfl) HONE.out ?_; rw [World.setRow_alloc_new]) | (refine wpList_load_met (by rfl) _ rfl _ rfl 22 C (0, 0) (heap_alloc_new w4 _) hcs ?_) | (refine wpList_load_met (by rfl) _ rfl _ rfl 22 C (0, 0) hg1 hcs ?_) | fail)
      go_ret
      exact ⟨rfl, HB4.out.alloc HB4.out.size _⟩
end Go.Proofs.YbulkhyeDoor
