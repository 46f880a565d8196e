/- groups.zzs0432cgroup. -/
import Derived.Test.YbulkhxqFmtEscKey
import Derived.Maps.OwnSet
import Derived.Laws.MakeOwn
import Derived.Deep.DeepMust
namespace Go.Proofs.YbulkhxqFmt
open Go.Extern.Stop Go.Stop Go.Extern Go.Kit Go.RowKit Go.WideMaps Go.Maps

/-- HOW AN ELEMENT '*entry' READS: nil, or the number of its block. -/
def ptrElem : Value → Option (DataW Unit × List MemPlace)
  | .pointer none => some (.nil, [])
  | .pointer (some a) => if a.off = 0 ∧ a.spot = none then some (.lit (.int .i64 a.block), []) else none
  | _ => none
theorem ptrElem_nil : ptrElem (.pointer none) = some (.nil, []) := rfl
theorem ptrElem_mk (b : Nat) : ptrElem (.pointer (some ⟨b, 0, none⟩)) = some (.lit (.int .i64 b), []) := by simp [ptrElem]
theorem ptrElem_inv_nil {v : Value} {ps : List MemPlace} (h : ptrElem v = some (.nil, ps)) : v = .pointer none := by
  cases v with
  | pointer a => cases a with
    | none => rfl
    | some a => simp only [ptrElem] at h; split at h <;> simp at h
  | _ => simp [ptrElem] at h
theorem ptrElem_inv {v : Value} {b : Nat} {ps : List MemPlace} (h : ptrElem v = some (.lit (.int .i64 b), ps)) : v = .pointer (some ⟨b, 0, none⟩) := by
  cases v with
  | pointer a => cases a with
    | none => simp [ptrElem] at h
    | some a =>
      obtain ⟨x, y, z⟩ := a
      simp only [ptrElem] at h
      split at h
      · rename_i hh
        simp at h hh
        obtain ⟨rfl, rfl⟩ := hh
        have : x = b := by omega
        subst this; rfl
      · simp at h
  | _ => simp [ptrElem] at h

theorem law9 : Keyed Ybaf.prog 9 := string_keyed Ybaf.underlying9
theorem zero62 (w : World) : (zeroValue 62).run Ybaf.prog w = .ok (.pointer none) w := by kernel_rfl

theorem ownsMap_below {w w' : World} {B b n : Nat} {D : DataW Unit} (h : w.ownsMap Ybaf.prog 9 ptrElem b n D) (hb : Below B w w') (hlt : b < B) : w'.ownsMap Ybaf.prog 9 ptrElem b n D := by
  obtain ⟨es, clock, h1, r⟩ := h
  exact ⟨es, clock, (hb.block b hlt).trans h1, r⟩

/-- k fillers: the keys are 'k', 'kk', ..: none holds a dot, none is longer than k. -/
def Fil (k : Nat) (D : DataW Unit) : Prop := Maps.size D = k ∧ ∀ l : List UInt8, (46 ∈ l ∨ k < l.length) → Maps.has D (.string l) = false

theorem info78 : (Ybaf.prog.info? 78).map (fun i => (i.zero, i.size, i.bytes)) = some (some (.agg #[.string ⟨#[]⟩, .string ⟨#[]⟩, .nilFunc]), 3, 40) := by kernel_rfl

theorem make_subs (n : Nat) (hn : n ≤ 1024) (w : World) : (Instr.makeSlice 24 (.int .i64 (n : Int)) (.int .i64 (n : Int))).run Ybaf.prog w = .ok (.slice (some ⟨w.heap.size, 0, none⟩) n n) (w.alloc (.cells (madeCells #[.string ⟨#[]⟩, .string ⟨#[]⟩, .nilFunc] (n * 3)) 78)) := by
  obtain ⟨i0, hi, hz0, hz1, hz2⟩ := info_parts info78
  have := run_make (P := Ybaf.prog) w 24 78 i0 _ Ybaf.underlying24 hi hz0 .i64 .i64 (n : Int) (n : Int) (by omega) (by omega) (by rw [hz2]; omega) (by omega)
  rw [hz1] at this
  simpa [Value.cells] using this

/-- the fillers' keys -/
def rep (k : Nat) : ByteArray := ⟨(List.replicate k 107).toArray⟩
theorem rep_list (k : Nat) : (rep k).data.toList = List.replicate k 107 := by simp [rep]
theorem rep_size (k : Nat) : (rep k).size = k := by show (List.replicate k (107 : UInt8)).toArray.size = k; simp
theorem rep_succ (k : Nat) : rep k ++ ⟨#[107]⟩ = rep (k + 1) := by
  apply ByteArray.ext
  show (rep k ++ ⟨#[107]⟩ : ByteArray).data = (List.replicate (k + 1) 107).toArray
  rw [ByteArray.data_append, List.replicate_succ']
  apply Array.ext'
  simp [rep]

theorem Fil.zero : Fil 0 (.map []) := ⟨rfl, fun _ _ => rfl⟩
theorem Fil.succ {k : Nat} {D : DataW Unit} (h : Fil k D) (ht : Tidy D) (d : DataW Unit) : Fil (k + 1) (D.put (.string (rep (k + 1)).data.toList) d) := by
  obtain ⟨h1, h2⟩ := h
  have hno : Maps.has D (.string (rep (k + 1)).data.toList) = false := h2 _ (Or.inr (by rw [rep_list]; simp))
  refine ⟨by rw [size_put ht, hno, h1]; rfl, fun l hl => ?_⟩
  rw [has_put_other (fun e => ?_)]
  · exact h2 l (hl.elim Or.inl (fun h => Or.inr (by omega)))
  · have e' : l = List.replicate (k + 1) 107 := by rw [rep_list] at e; injection e
    subst e'
    rcases hl with hl | hl
    · have := List.eq_of_mem_replicate hl; cases this
    · simp at hl

/-- THE CELLS OF THE GROUP that the law makes (of them two are read: its subscriptions and its entries). -/
def grpCells (N n : Nat) : Array Value :=
  #[.string ⟨#[]⟩, .string ⟨#[]⟩, .slice (some ⟨N, 0, none⟩) n n, .int .i64 0, .int .i64 0, .int .i64 0, .int .i64 0, .int .i64 0, .nilFunc,
    .string ⟨#[]⟩, .pointer none, .pointer none, .pointer none, .pointer none, .int .i32 0, .int .u32 0, .nilIface, .nilFunc, .int .i32 0,
    .int .u32 0, .pointer none, .map (some (N + 1)), .map none, .slice none 0 0, .bool false, .chan none, .int .u64 0, .int .u32 0,
    .int .u64 0, .int .u32 0, .int .u64 0, .int .u32 0, .int .u32 0, .int .i32 0, .int .u32 0]

/-- WHAT A GROUP IN MEMORY IS GOOD FOR: block N the subscriptions' row, N + 1 the map (at most m entries, it reads as D), N + 2 the group. -/
structure Grp (N : Nat) (nm : List ByteArray) (m : Nat) (D : DataW Unit) (w : World) : Prop where
  lt : N + 2 < w.heap.size
  subs : ∃ C : Array Value, w.heap[N]? = some (.cells C 78 (0, 0)) ∧ ∀ j, j < nm.length → C[j * 3]? = some (.string (nm.getD j ByteArray.empty))
  grp : w.heap[N + 2]? = some (.cells (grpCells N nm.length) 61 (0, 0))
  map : w.ownsMap Ybaf.prog 9 ptrElem (N + 1) m D

theorem Grp.c2 {N m : Nat} {nm : List ByteArray} {D : DataW Unit} {w : World} (h : Grp N nm m D w) : w.cell? ⟨N + 2, 2, none⟩ = some (.slice (some ⟨N, 0, none⟩) nm.length nm.length) := by
  rw [Lib.cell_of_heap h.grp]; rfl
theorem Grp.c21 {N m : Nat} {nm : List ByteArray} {D : DataW Unit} {w : World} (h : Grp N nm m D w) : w.cell? ⟨N + 2, 21, none⟩ = some (.map (some (N + 1))) := by
  rw [Lib.cell_of_heap h.grp]; rfl
theorem Grp.sub {N m : Nat} {nm : List ByteArray} {D : DataW Unit} {w : World} (h : Grp N nm m D w) (j : Nat) (hj : j < nm.length) : w.cell? ⟨N, j * 3, none⟩ = some (.string (nm.getD j ByteArray.empty)) := by
  obtain ⟨C, h1, h2⟩ := h.subs
  rw [Lib.cell_of_heap h1]; exact h2 j hj
theorem Grp.below {N m B : Nat} {nm : List ByteArray} {D : DataW Unit} {w w' : World} (h : Grp N nm m D w) (hb : Below B w w') (hB : N + 2 < B) : Grp N nm m D w' := by
  obtain ⟨C, h1, h2⟩ := h.subs
  exact ⟨Nat.lt_of_lt_of_le h.lt hb.size, ⟨C, (hb.block N (by omega)).trans h1, h2⟩, (hb.block (N + 2) hB).trans h.grp, ownsMap_below h.map hb (by omega)⟩
/-- behind a store into the map -/
theorem Grp.stored {N m m' : Nat} {nm : List ByteArray} {D D' : DataW Unit} {w w' : World} (h : Grp N nm m D w) (hg : w.grownBy w' (some (N + 1))) (hm : w'.ownsMap Ybaf.prog 9 ptrElem (N + 1) m' D') : Grp N nm m' D' w' := by
  obtain ⟨C, h1, h2⟩ := h.subs
  have hl := h.lt
  exact ⟨Nat.lt_of_lt_of_le h.lt hg.size, ⟨C, (hg.block N (by omega) (by intro e; injection e with e; omega)).trans h1, h2⟩, (hg.block (N + 2) hl (by intro e; injection e with e; omega)).trans h.grp, hm⟩
theorem Grp.alloc {N m : Nat} {nm : List ByteArray} {D : DataW Unit} {w : World} (h : Grp N nm m D w) (o : Obj) : Grp N nm m D (w.alloc o) :=
  h.below ((Below.refl w.heap.size w).alloc (Nat.le_refl _) o) h.lt

theorem set_mul3 (C : Array Value) (n k : Nat) (v : Value) (nm : List ByteArray) (hC : C.size = n * 3) (hk : k < n) (hv : v = .string (nm.getD k ByteArray.empty)) (h : ∀ j, j < k → C[j * 3]? = some (.string (nm.getD j ByteArray.empty))) :
    ∀ j, j < k + 1 → (C.setIfInBounds (k * 3) v)[j * 3]? = some (.string (nm.getD j ByteArray.empty)) := by
  intro j hj
  rw [Array.getElem?_setIfInBounds]
  by_cases e : j = k
  · subst e; simp only [if_true]; rw [if_pos (by omega), hv]
  · rw [if_neg (by omega)]; exact h j (by omega)

theorem grp_start (w : World) (C : Array Value) (nm : List ByteArray) (h : ∀ j, j < nm.length → C[j * 3]? = some (.string (nm.getD j ByteArray.empty))) :
    Grp w.heap.size nm 0 (.map []) (((w.alloc (.cells C 78)).alloc (.map #[] 0)).alloc (.cells (grpCells w.heap.size nm.length) 61)) := by
  have e1 : (w.alloc (.cells C 78)).heap.size = w.heap.size + 1 := by simp
  have e2 : ((w.alloc (.cells C 78)).alloc (.map #[] 0)).heap.size = w.heap.size + 2 := by simp
  refine ⟨by simp, ⟨C, ?_, h⟩, ?_, ?_⟩
  · rw [Below.heap_alloc _ _ _ (by rw [e2]; omega), Below.heap_alloc _ _ _ (by rw [e1]; omega)]; exact heap_alloc_new w _
  · rw [← e2]; exact heap_alloc_new _ _
  · have := World.ownsMap_made (w.alloc (.cells C 78)) Ybaf.prog 9 ptrElem
    rw [e1] at this
    exact this.alloc _

set_option maxHeartbeats 1000000 in
set_option maxRecDepth 100000 in
theorem group_any (a0 : Option Addr) (xb xo cap : Nat) (nm : List ByteArray) (x : Int) (w : World) (hn : nm.length ≤ 1024) (hx0 : 0 ≤ x) (hx1 : x < 256)
    (hxa : 0 < nm.length → a0 = some ⟨xb, xo, none⟩) (hc : ∀ j, j < nm.length → w.cell? ⟨xb, xo + j, none⟩ = some (.string (nm.getD j ByteArray.empty))) :
    Calls Ybaf.prog 5 #[.slice a0 nm.length cap, .int .u8 x] w fun e w' => e = .returned (.tuple #[.pointer (some ⟨w.heap.size + 2, 0, none⟩), .slice (some ⟨w.heap.size, 0, none⟩) nm.length nm.length]) ∧
      Below w.heap.size w w' ∧ ∃ k D, k ≤ 3 ∧ Fil k D ∧ Grp w.heap.size nm k D w' := by
  have hmk := fun w => make_subs nm.length hn w
  have hmm := @run_makeMap Ybaf.prog
  have HC : Hid (∀ j, j < nm.length → w.cell? ⟨xb, xo + j, none⟩ = some (.string (nm.getD j ByteArray.empty))) := hc
  clear hc
  go_enter Ybaf.func5, Ybaf.ntmps5
  go_wp2
  go_loopw [16, 7] (fun i _ wr => ∃ k : Nat, k ≤ nm.length ∧ i = .int .i64 k ∧ ∃ C : Array Value, wr = w.alloc (.cells C 78) ∧ C.size = nm.length * 3 ∧ Hid (∀ j, j < k → C[j * 3]? = some (.string (nm.getD j ByteArray.empty)))) (fun i _ _ => nm.length - (intOf i).toNat)
  case atStart => exact ⟨0, Nat.zero_le _, rfl, _, rfl, size_madeCells _ _, fun j hj => by omega⟩
  case round =>
    obtain ⟨k, hk, rfl, C, rfl, hC, HP⟩ := hrel
    by_cases hlt : k < nm.length
    · have e := hxa (by omega)
      subst e
      have g1 := HC.out k hlt
      have hb : xb < w.heap.size := by
        rcases Nat.lt_or_ge xb w.heap.size with h' | h'
        · exact h'
        · simp [World.cell?, Array.getElem?_eq_none h'] at g1
      go_wp2
      go_roundw
      case rel => exact ⟨k + 1, by omega, by go_num, _, rfl, by simpa using hC, set_mul3 C _ k _ nm hC hlt (by simp [hlt]) HP.out⟩
      case measure => simp [intOf]; omega
    · obtain rfl : k = nm.length := by omega
      clear hmk
      go_wp2
      clear hmm
      go_loopw [9, 10] (fun f i wr => ∃ k : Nat, (k : Int) ≤ x % 4 ∧ i = .int .i64 k ∧ f = .string (rep (k + 1)) ∧ Hid (Below w.heap.size w wr) ∧ ∃ D, Hid (Fil k D) ∧ Hid (Grp w.heap.size nm k D wr)) (fun _ i _ => 4 - (intOf i).toNat)
      case atStart =>
        refine ⟨0, by omega, rfl, rfl, (((Below.refl _ w).alloc (Nat.le_refl _) _).alloc (by first | (simp; done) | (simp; omega)) _).alloc (by first | (simp; done) | (simp; omega)) _, .map [], Fil.zero, ?_⟩
        exact grp_start w C nm HP.out
      case round =>
        obtain ⟨k, hk, rfl, rfl, HB, D, HF, HG⟩ := hrel
        have g21 := HG.out.c21
        have hlt2 := HG.out.lt
        have hs := rep_size (k + 1)
        have hrs := rep_succ (k + 1)
        by_cases hlt : (k : Int) < x % 4
        · go_wp2_with (first | (at_mapUpdate; go_must (refine wpList_mapUpdate_own _ rfl _ _ _ 46 rfl 9 62 law9 Ybaf.underlying46 _ (w.heap.size + 1) k _ rfl (HG.out.alloc _).map (by unfold maxLen; omega) _ _ _ rfl rfl (keyOf_string_mk Ybaf.underlying9 (by rw [rep_size]; unfold maxLen; omega)) _ [] (ptrElem_mk _) ?_); intro w1 hown1 hgrow1) | go_in)
          go_roundw
          case rel => exact ⟨k + 1, by omega, by go_num, by go_num, (HB.out.alloc HB.out.size _).grown hgrow1 (by have := HB.out.size; simp; omega) (fun j hj => by injection hj with hj; omega), _, HF.out.succ (HG.out.map.tidy law9) _, (HG.out.alloc _).stored hgrow1 hown1⟩
          case measure => simp [intOf]; omega
        · go_wp2
          go_ret2
          exact ⟨rfl, HB.out, k, by omega, D, HF.out, HG.out⟩
end Go.Proofs.YbulkhxqFmt
