/- store.ParseHash. -/
import Derived.Test.YbulkhyeDoorRows
import Derived.Test.YbulkhyeDoorShelf
import Derived.WalkKit
import Derived.WalkSpells
import Derived.Laws.Rows
import Derived.Laws.Tables
import Derived.Laws.IdiomStrings
import Derived.ChangeKeysEq
import Derived.Laws.StructEq
namespace Go.Proofs.YbulkhyeDoor
open Go.RowKit

/-! ### plain -/
/-- a lower-case hexadecimal digit -/
def hexB (c : Int) : Bool := decide ((48 ≤ c ∧ c ≤ 57) ∨ (97 ≤ c ∧ c ≤ 102))
def dig (c : Int) : Int := if c ≤ 57 then c - 48 else c - 87
theorem dig_bd {c : Int} (h : hexB c = true) : 0 ≤ dig c ∧ dig c < 16 := by
  unfold hexB at h; unfold dig; simp at h; split <;> omega
theorem v_dig_fin : ∀ n : Fin 256, hexB (n.val : Int) = true → (Lib.Hx.v (UInt8.ofNat n.val) : Int) = dig (n.val : Int) := by decide +kernel
theorem v_dig (c : UInt8) (h : hexB (c.toNat : Int) = true) : (Lib.Hx.v c : Int) = dig (c.toNat : Int) := by
  have := v_dig_fin ⟨c.toNat, c.toNat_lt⟩ h
  simpa using this

/-- the bytes' values -/
def sat (s : ByteArray) (i : Nat) : Int := ((s.data.toList[i]?.getD 0).toNat : Int)
def okH (s : ByteArray) : Bool := decide (s.size = 64) && (List.range 64).all (fun i => hexB (sat s i))
def hb (s : ByteArray) (i : Nat) : Int := dig (sat s (2 * i)) * 16 + dig (sat s (2 * i + 1))
def hcells (s : ByteArray) : Array Value := Array.ofFn (n := 32) fun i => .int .u8 (hb s i.val)
def zcells : Array Value := #[.int .u8 0, .int .u8 0, .int .u8 0, .int .u8 0, .int .u8 0, .int .u8 0, .int .u8 0, .int .u8 0, .int .u8 0, .int .u8 0, .int .u8 0, .int .u8 0, .int .u8 0, .int .u8 0, .int .u8 0, .int .u8 0,
  .int .u8 0, .int .u8 0, .int .u8 0, .int .u8 0, .int .u8 0, .int .u8 0, .int .u8 0, .int .u8 0, .int .u8 0, .int .u8 0, .int .u8 0, .int .u8 0, .int .u8 0, .int .u8 0, .int .u8 0, .int .u8 0]

theorem okH_iff (s : ByteArray) : okH s = true ↔ s.size = 64 ∧ ∀ i, i < 64 → hexB (sat s i) = true := by
  simp [okH]

/-- the array that comes back -/
def hval (s : ByteArray) : Array Value := if okH s = true then hcells s else zcells
theorem hval_bad {s : ByteArray} (h : okH s = false) : hval s = zcells := by simp [hval, h]
theorem hval_good {s : ByteArray} (h : okH s = true) : hval s = hcells s := by simp [hval, h]
theorem okH_bad {s : ByteArray} {k : Nat} (hk : k < 64) (h : hexB (sat s k) = false) : okH s = false := by
  cases hq : okH s
  · rfl
  · rw [((okH_iff s).1 hq).2 k hk] at h; cases h

theorem info22 : (Ybad.prog.info? 22).map (·.size) = some 32 := by kernel_rfl

/-- WHAT IS KNOWN OF THE TWO ARRAYS THAT THE CALL LAYS: block N (the result's) and N + 1 (h's). -/
structure Two (N : Nat) (w W : World) : Prop where
  size : W.heap.size = N + 2
  r : W.heap[N]? = some (.cells zcells 22 (0, 0))
  h : W.heap[N + 1]? = some (.cells zcells 22 (0, 0))
  below : Below N w W

theorem two_start (w : World) : Two w.heap.size w ((w.alloc (.cells zcells 22)).alloc (.cells zcells 22)) := by
  refine ⟨by simp, ?_, ?_, ((Below.refl _ w).alloc (Nat.le_refl _) _).alloc (by simp) _⟩
  · exact heap_alloc2_old w _ _
  · exact heap_alloc2_new w _ _

theorem zcells_rep : zcells = Array.replicate 32 (.int .u8 0) := rfl
theorem zcells_size : zcells.size = 32 := rfl
theorem zcells_one : zcells.all (·.oneCell') = true := by simp [zcells, Value.oneCell']

theorem setRow_heap_same (w : World) (g : Nat) (cs cur : Array Value) (t : TypeId) (hg : w.heap[g]? = some (.cells cur t (0, 0))) : (w.setRow g cs).heap[g]? = some (.cells cs t (0, 0)) := setRow_heap w g cur cs t _ hg
theorem below_setRow {B : Nat} {a w : World} (h : Below B a w) {g : Nat} (hg : B ≤ g) (cs : Array Value) : Below B a (w.setRow g cs) :=
  h.trans ⟨rfl, rfl, rfl, by simp [World.setRow], fun k hk => by
    simp only [World.setRow, Array.getElem?_modify]
    rw [if_neg (by omega)]⟩

/-- THE END OF A WAY: two results, the first in block N. -/
theorem ret_pair {N : Nat} {W : World} {C : Array Value} {b : Bool} {tmps : Array Value} {Q : Ending → World → Prop} (hg : W.heap[N]? = some (.cells C 22 (0, 0))) (hC : C.size = 32) (h2 : tmps.getD 2 undef = .pointer (some ⟨N, 0, none⟩)) (h3 : tmps.getD 3 undef = .bool b)
    (hQ : Q (.returned (.tuple #[.agg C, .bool b])) W) : bodyPost Ybad.prog Ybad.f6 Q Exit.ret ⟨tmps, []⟩ W := by
  have hl := run_loadVar_row (P := Ybad.prog) W N 22 22 C (0, 0) _ hg Ybad.underlying22 rfl (by rw [hC]; exact info22)
  have h2' : tmps[2]?.getD undef = .pointer (some ⟨N, 0, none⟩) := by simpa using h2
  have h3' : tmps[3]?.getD undef = .bool b := by simpa using h3
  exact bodyPost_ret (v := .tuple #[.agg C, .bool b]) (by simp [results, Ybad.results6, asAddr, hl, h2', h3']) rfl hQ

theorem parse_ret_zero {w W : World} {tmps : Array Value} (hT : Two w.heap.size w W) (h2 : tmps.getD 2 undef = .pointer (some ⟨w.heap.size, 0, none⟩)) (h3 : tmps.getD 3 undef = .bool false) :
    bodyPost Ybad.prog Ybad.f6 (fun e w' => e = .returned (.tuple #[.agg zcells, .bool false]) ∧ Below w.heap.size w w') Exit.ret ⟨tmps, []⟩ (W.setRow w.heap.size zcells) :=
  ret_pair (setRow_heap_same W w.heap.size zcells _ 22 hT.r) rfl h2 h3 ⟨rfl, below_setRow hT.below (Nat.le_refl _) _⟩

set_option maxHeartbeats 1000000 in
set_option maxRecDepth 100000 in
theorem parse_short (s : ByteArray) (w : World) (_hs : s.size ≤ maxLen) (h64 : ((s.size : Int) != 64) = true) :
    Calls Ybad.prog 6 #[.string s] w fun e w' => e = .returned (.tuple #[.agg zcells, .bool false]) ∧ Below w.heap.size w w' := by
  go_enter Ybad.func6, Ybad.ntmps6
  go_wp2_with fail
  refine (Ybad.hex_EncodedLen 32 (by omega) (by omega) _).mono ?_
  rintro e W ⟨rfl, hW⟩
  have hT : Two w.heap.size w W := by rw [hW]; exact two_start w
  clear hW
  have hr := hT.r
  have hh := hT.h
  have HT : Hid (Two w.heap.size w W) := hT
  clear hT
  go_wp2_with (first | (refine wpList_load_row rfl 22 _ rfl _ rfl 22 zcells (0, 0) _ hh Ybad.underlying22 rfl (by exact info22) ?_) | (refine wpList_store_row rfl 22 _ _ rfl _ zcells rfl rfl 22 zcells hr (by exact info22) rfl zcells_one ?_) | fail)
  exact parse_ret_zero HT.out rfl rfl

/-- hex.Decode at 64 lower-case digits -/
theorem decode_hex (l : List UInt8) (hl : l.length = 64) (h : ∀ i, i < 64 → hexB ((l[i]?.getD 0).toNat : Int) = true) :
    (Lib.Hx.decode l).1.length = 32 ∧ ∀ i, i < 32 → (((Lib.Hx.decode l).1[i]?.getD 0).toNat : Int) = dig ((l[2 * i]?.getD 0).toNat : Int) * 16 + dig ((l[2 * i + 1]?.getD 0).toNat : Int) := by
  have step : ∀ k, k ≤ 32 → ∃ pre, Lib.Hx.Mid l k pre ∧ ∀ i, i < k → ((pre[i]?.getD 0).toNat : Int) = dig ((l[2 * i]?.getD 0).toNat : Int) * 16 + dig ((l[2 * i + 1]?.getD 0).toNat : Int) := by
    intro k
    induction k with
    | zero => intro _; exact ⟨[], Lib.Hx.mid_zero l, fun i hi => by omega⟩
    | succ k ih =>
      intro hk
      obtain ⟨pre, hm, hp⟩ := ih (by omega)
      have e1 : l[2 * k]? = some (l[2 * k]?.getD 0) := by rw [List.getElem?_eq_getElem (by omega)]; rfl
      have e2 : l[2 * k + 1]? = some (l[2 * k + 1]?.getD 0) := by rw [List.getElem?_eq_getElem (by omega)]; rfl
      have d1 := v_dig _ (h (2 * k) (by omega))
      have d2 := v_dig _ (h (2 * k + 1) (by omega))
      have b1 := dig_bd (h (2 * k) (by omega))
      have b2 := dig_bd (h (2 * k + 1) (by omega))
      refine ⟨_, Lib.Hx.mid_step hm _ _ e1 e2 (by omega) (by omega), fun i hi => ?_⟩
      by_cases e : i = k
      · subst e
        rw [List.getElem?_append_right (by rw [hm.1]; exact Nat.le_refl _), hm.1]
        simp only [Nat.sub_self, List.getElem?_cons_zero, Option.getD_some]
        rw [UInt8.toNat_ofNat', Nat.mod_eq_of_lt (by omega)]
        omega
      · rw [List.getElem?_append_left (by rw [hm.1]; omega)]
        exact hp i (by omega)
  obtain ⟨pre, hm, hp⟩ := step 32 (Nat.le_refl _)
  have e : (Lib.Hx.decode l).1 = pre := by
    rw [hm.2.1, List.drop_of_length_le (by omega), Lib.Hx.decode_nil, List.append_nil]
  rw [e]
  exact ⟨hm.1, hp⟩

theorem sat_at (s : ByteArray) (k : Nat) (h : k < s.size) : sat s k = (s[k].toNat : Int) := by
  have h' : k < s.data.toList.length := by simpa using h
  show ((s.data.toList[k]?.getD 0).toNat : Int) = _
  rw [List.getElem?_eq_getElem h']
  rfl

theorem hcells_size (s : ByteArray) : (hcells s).size = 32 := by simp [hcells]
theorem hcells_at (s : ByteArray) (i : Nat) (hi : i < 32) : (hcells s)[i]? = some (.int .u8 (hb s i)) := by simp [hcells, hi]
theorem hcells_one (s : ByteArray) : (hcells s).all (·.oneCell') = true := by
  rw [Array.all_eq_true_iff_forall_mem]
  intro v hv
  simp only [hcells, Array.mem_ofFn] at hv
  obtain ⟨i, rfl⟩ := hv
  rfl
theorem bytes_at (W : World) (s : ByteArray) (cap : Nat) (fr : Nat × Nat) (j : Nat) (hj : j < s.data.size) :
    (W.alloc (.cells (bytesRow s cap) 5 fr)).drew.cell? ⟨W.heap.size, 0 + j, none⟩ = some (.int .u8 (s.data[j].toNat : Int)) := by
  show (W.alloc _).cell? _ = _
  rw [Nat.zero_add, World.cell?_alloc_mark, bytesRow_at s _ j hj]
theorem two_row {N : Nat} {w W : World} (h : Two N w W) (o : Obj) : (W.alloc o).drew.rowIs (N + 1) 22 32 (fun _ => .int .u8 0) := by
  refine ⟨zcells, ?_, rfl, ?_⟩
  · show (W.alloc o).heap[N + 1]? = _
    rw [Below.heap_alloc W _ _ (by rw [h.size]; omega)]; exact h.h
  · intro i hi
    rw [zcells_rep]
    simp [hi]
theorem cells_eq (s : ByteArray) (c : Array Value) (h64 : s.size = 64) (hP : ∀ j, j < 64 → hexB (sat s j) = true) (hcs : c.size = 32)
    (hcv : ∀ i, i < 32 → c[i]? = some (Lib.Hx.rowP (fun _ => .int .u8 0) 0 (Lib.Hx.decode (Lib.bytesOf (Lib.Hx.numsOf s))).1 i)) : c = hcells s := by
  have hd := decode_hex s.data.toList (by rw [Array.length_toList]; exact h64) hP
  apply Array.ext_getElem?
  intro i
  by_cases hi : i < 32
  · rw [hcv i hi, hcells_at s i hi, Lib.Hx.bytesOf_numsOf]
    unfold Lib.Hx.rowP
    rw [if_pos (by omega), Nat.sub_zero, hd.2 i hi]
    rfl
  · rw [Array.getElem?_eq_none (by omega), Array.getElem?_eq_none (by rw [hcells_size]; omega)]

set_option maxHeartbeats 2000000 in
set_option maxRecDepth 100000 in
theorem parse_64 (s : ByteArray) (ev : Value) (w : World) (h64 : s.size = 64) (hE : w.cell? ⟨0, 0, none⟩ = some ev) :
    Calls Ybad.prog 6 #[.string s] w fun e w' => e = .returned (.tuple #[.agg (hval s), .bool (okH s)]) ∧ Below w.heap.size w w' := by
  have hcv2 := fun w s => run_bytes_of_string (P := Ybad.prog) w 9 23 5 s Ybad.underlying9 Ybad.underlying23 Ybad.underlying5
  have h0 : 0 < w.heap.size := block_lt_of_cell hE
  have HE : Hid (w.cell? ⟨0, 0, none⟩ = some ev) := hE
  clear hE
  go_enter Ybad.func6, Ybad.ntmps6
  go_wp2_with fail
  refine (Ybad.hex_EncodedLen 32 (by omega) (by omega) _).mono ?_
  rintro e W ⟨rfl, hW⟩
  have hT : Two w.heap.size w W := by rw [hW]; exact two_start w
  clear hW
  have hr := hT.r
  have hh := hT.h
  have HT : Hid (Two w.heap.size w W) := hT
  have hsz := hT.size
  clear hT
  go_wp2_with fail
  go_loop [5] (fun i => ∃ k : Nat, k ≤ 64 ∧ i = .int .i64 k ∧ Hid (∀ j, j < k → hexB (sat s j) = true)) (fun i => 64 - (intOf i).toNat)
  case atStart => exact ⟨0, Nat.zero_le _, rfl, fun j hj => by omega⟩
  case round =>
    obtain ⟨k, hk, rfl, HP⟩ := hrel
    by_cases hlt : k < 64
    · have hks : k < s.size := by omega
      have esat := sat_at s k hks
      have ESAT : Hid (sat s k = (s[k].toNat : Int)) := esat
      clear esat
      cases hq : hexB (sat s k)
      · have hok := okH_bad hlt hq
        have hv := hval_bad hok
        rw [ESAT.out] at hq
        unfold hexB at hq
        simp only [decide_eq_false_iff_not] at hq
        go_wp2_with (first | (refine wpList_load_row rfl 22 _ rfl _ rfl 22 zcells (0, 0) _ hh Ybad.underlying22 rfl (by exact info22) ?_) | (refine wpList_store_row rfl 22 _ _ rfl _ zcells rfl rfl 22 zcells hr (by exact info22) rfl zcells_one ?_) | fail)
        all_goals first | (exfalso; simp at *; omega) | exact parse_ret_zero HT.out rfl rfl
      · have HQ : Hid (hexB (sat s k) = true) := hq
        rw [ESAT.out] at hq
        unfold hexB at hq
        simp only [decide_eq_true_eq] at hq
        rcases hq with ⟨q1, q2⟩ | ⟨q1, q2⟩
        all_goals
          go_wp2_with fail
          go_round
          case rel => exact ⟨k + 1, by omega, by go_num, fun j hj => by
            by_cases e : j = k
            · subst e; exact HQ.out
            · exact HP.out j (by omega)⟩
          case measure => simp [intOf]; omega
    · obtain rfl : k = 64 := by omega
      have hok : okH s = true := (okH_iff s).2 ⟨h64, HP.out⟩
      have hv := hval_good hok
      go_wp2_with fail
      generalize grownCap W 64 0 5 = cap
      refine (Ybad.hex_Decode_tag 22 (w.heap.size + 1) 0 32 32 32 (fun _ => .int .u8 0) (w.heap.size + 2) 0 64 cap (Lib.Hx.numsOf s) _ ev ?x1 ?x2 ?x3 ?x4 (by omega) (by omega) (by omega) (by omega) ?x5 (by omega)).mono ?_
      case x1 => rw [Lib.Hx.numsOf_length]; exact h64
      case x2 => exact fun i _ => Lib.Hx.numsOf_range s i
      case x3 =>
        intro i hi
        rw [Lib.Hx.numsOf_at s i (by show i < s.size; omega), ← hsz]
        exact bytes_at W s cap _ i (by show i < s.size; omega)
      case x4 => exact two_row HT.out _
      case x5 => exact ((HT.out.below.alloc (by omega) _).drew.cell (p := ⟨0, 0, none⟩) h0).trans HE.out
      rintro e w3 ⟨rfl, hrow, hgrow⟩
      obtain ⟨c, hc, hcs, hcv⟩ := hrow
      obtain rfl : c = hcells s := cells_eq s c h64 HP.out hcs hcv
      have hr3 : w3.heap[w.heap.size]? = some (.cells zcells 22 (0, 0)) := by
        rw [hgrow.block w.heap.size (by simp; omega) (by intro e; injection e with e; omega)]
        exact (Below.heap_alloc W _ _ (by omega)).trans hr
      have hB3 : Below w.heap.size w w3 := ((HT.out.below.alloc (by omega) _).drew).grown hgrow (by simp; omega) (fun j hj => by injection hj with hj; omega)
      have HB3 : Hid (Below w.heap.size w w3) := hB3
      have HR3 : Hid (w3.heap[w.heap.size]? = some (.cells zcells 22 (0, 0))) := hr3
      clear hcv hcs hgrow hr hh hB3
      generalize (((Lib.Hx.decode (Lib.bytesOf (Lib.Hx.numsOf s))).1.length : Nat) : Int) = r1
      generalize Lib.Hx.errVal 37 ev (Lib.Hx.decode (Lib.bytesOf (Lib.Hx.numsOf s))).2 = r2
      go_wp2_with (first | (refine wpList_load_row rfl 22 _ rfl _ rfl 22 (hcells s) (0, 0) _ hc Ybad.underlying22 rfl (by rw [hcells_size]; exact info22) ?_) | (refine wpList_store_row rfl 22 _ _ rfl _ (hcells s) rfl rfl 22 zcells hr3 (by rw [hcells_size]; exact info22) (by rw [hcells_size]; rfl) (hcells_one s) ?_) | fail)
      exact ret_pair (setRow_heap_same w3 w.heap.size (hcells s) _ 22 HR3.out) (hcells_size s) rfl rfl ⟨by rw [hv, hok], below_setRow HB3.out (Nat.le_refl _) _⟩

/-- store.ParseHash at every string. -/
theorem parse_any (s : ByteArray) (ev : Value) (w : World) (hs : s.size ≤ maxLen) (hE : w.cell? ⟨0, 0, none⟩ = some ev) :
    Calls Ybad.prog 6 #[.string s] w fun e w' => e = .returned (.tuple #[.agg (hval s), .bool (okH s)]) ∧ Below w.heap.size w w' := by
  by_cases h : s.size = 64
  · exact parse_64 s ev w h hE
  · have hok : okH s = false := by
      cases hq : okH s
      · rfl
      · exact absurd ((okH_iff s).1 hq).1 h
    rw [hval_bad hok, hok]
    exact parse_short s w hs (by simp; omega)
end Go.Proofs.YbulkhyeDoor
