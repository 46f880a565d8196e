/- (*Group).subscription, (*Group).entryOf. -/
import Derived.Test.YbulkhxqFmtGroup
namespace Go.Proofs.YbulkhxqFmt
open Go.Extern.Stop Go.Stop Go.Extern Go.Kit Go.RowKit Go.WideMaps Go.Maps

/-- v is a pointer to the first subscription called sub, or nil where there is none. -/
def IsSub (N : Nat) (nm : List ByteArray) (sub : ByteArray) (v : Value) : Prop :=
  (v = .pointer none ∧ ∀ j, j < nm.length → nm.getD j ByteArray.empty ≠ sub) ∨
  ∃ j, j < nm.length ∧ v = .pointer (some ⟨N, j * 3, none⟩) ∧ nm.getD j ByteArray.empty = sub ∧ ∀ i, i < j → nm.getD i ByteArray.empty ≠ sub

theorem IsSub.unique {N : Nat} {nm : List ByteArray} {sub : ByteArray} {v v' : Value} (h : IsSub N nm sub v) (h' : IsSub N nm sub v') : v = v' := by
  rcases h with ⟨rfl, h⟩ | ⟨j, hj, rfl, h1, h2⟩ <;> rcases h' with ⟨rfl, h'⟩ | ⟨j', hj', rfl, h1', h2'⟩
  · rfl
  · exact absurd h1' (h j' hj')
  · exact absurd h1 (h' j hj)
  · have : j = j' := by
      rcases Nat.lt_trichotomy j j' with h | h | h
      · exact absurd h1 (h2' j h)
      · exact h
      · exact absurd h1' (h2 j' h)
    subst this; rfl
theorem str_eq {a b : ByteArray} (h : (a.toList == b.toList) = true) : a = b := by
  have h' : a.toList = b.toList := eq_of_beq h
  rw [ByteArray.toList_eq, ByteArray.toList_eq] at h'
  exact ByteArray.ext (Array.ext' h')
theorem str_ne {a b : ByteArray} (h : (a.toList == b.toList) = false) : a ≠ b := by
  intro e; subst e; simp at h
theorem str_refl (a : ByteArray) : (a.toList == a.toList) = true := by simp

set_option maxHeartbeats 1000000 in
set_option maxRecDepth 100000 in
theorem subscription_any (N m : Nat) (nm : List ByteArray) (D : DataW Unit) (sub : ByteArray) (w : World) (hn : nm.length ≤ 1024) (hG : Grp N nm m D w) :
    Calls Ybaf.prog 10 #[.pointer (some ⟨N + 2, 0, none⟩), .string sub] w fun e w' => ∃ v, e = .returned v ∧ IsSub N nm sub v ∧ w' = w := by
  have c2 := hG.c2
  have HG : Hid (Grp N nm m D w) := hG
  clear hG
  go_enter Ybaf.func10, Ybaf.ntmps10
  go_wp2
  go_loop [12, 5] (fun i _ => ∃ k : Nat, k ≤ nm.length ∧ i = .int .i64 k ∧ Hid (∀ j, j < k → nm.getD j ByteArray.empty ≠ sub)) (fun i _ => nm.length - (intOf i).toNat)
  case atStart => exact ⟨0, Nat.zero_le _, rfl, fun j hj => by omega⟩
  case round =>
    obtain ⟨k, hk, rfl, HP⟩ := hrel
    by_cases hlt : k < nm.length
    · have g1 := HG.out.sub k hlt
      have e1 : nm.getD k ByteArray.empty = nm[k] := by simp [hlt]
      have HE : Hid (nm.getD k ByteArray.empty = nm[k]) := e1
      clear e1
      go_wp2
      · go_ret
        exact ⟨_, rfl, Or.inr ⟨k, hlt, rfl, by rw [HE.out]; exact str_eq ‹_›, HP.out⟩, rfl⟩
      · go_round
        case rel => exact ⟨k + 1, by omega, by go_num, fun j hj => by
          by_cases e : j = k
          · subst e; rw [HE.out]; exact str_ne ‹_›
          · exact HP.out j (by omega)⟩
        case measure => simp [intOf]; omega
    · obtain rfl : k = nm.length := by omega
      go_wp2
      go_ret
      exact ⟨_, rfl, Or.inl ⟨rfl, HP.out⟩, rfl⟩

theorem ckey_size (sub key : ByteArray) (h1 : sub.size ≤ 1024) (h2 : key.size ≤ 1024) : (ckey sub key).size ≤ 5000 := by
  have h3 := esc_len key.data.toList
  have h4 : key.data.toList.length = key.size := by rw [Array.length_toList]; rfl
  have h5 : (⟨(esc key.data.toList).toArray⟩ : ByteArray).size = (esc key.data.toList).length := by show (esc key.data.toList).toArray.size = _; simp
  have h6 : (⟨#[46]⟩ : ByteArray).size = 1 := rfl
  unfold ckey
  rw [ByteArray.size_append, ByteArray.size_append, h5, h6]
  omega
theorem ckey_dot (sub key : ByteArray) : 46 ∈ (ckey sub key).data.toList := by
  unfold ckey
  rw [ByteArray.data_append, ByteArray.data_append]
  simp

set_option maxHeartbeats 1000000 in
set_option maxRecDepth 100000 in
theorem entryOf_there (F : Interp) (N m : Nat) (nm : List ByteArray) (D : DataW Unit) (sub key : ByteArray) (eb : Nat) (w : World) (hF : F.told.answers w.tape) (hs : sub.size ≤ 1024) (hk : key.size ≤ 1024)
    (hG : Grp N nm m D w) (hD : ∀ z, D.atKey (.string (ckey sub key).data.toList) z = .lit (.int .i64 eb)) :
    Calls Ybaf.prog 6 #[.pointer (some ⟨N + 2, 0, none⟩), .string sub, .string key] w fun e w' => e = .returned (.pointer (some ⟨eb, 0, none⟩)) ∧ Below w.heap.size w w' := by
  have HG : Hid (Grp N nm m D w) := hG
  have HD : Hid (∀ z, D.atKey (.string (ckey sub key).data.toList) z = .lit (.int .i64 eb)) := hD
  clear hG hD
  go_enter Ybaf.func6, Ybaf.ntmps6
  go_wp2_with fail
  refine (checkpointKey_any F sub key _ (by exact hF) hs hk).mono ?_
  rintro e w' ⟨rfl, hw⟩
  have HW : Hid (Below w.heap.size w w') := hw
  clear hw
  have hG' := HG.out.below HW.out HG.out.lt
  have g21 := hG'.c21
  obtain ⟨v, ps, hrun, hv⟩ := hG'.map.lookup law9 Ybaf.underlying46 (zero62 w') ptrElem_nil (keyOf_string_mk Ybaf.underlying9 (s := ckey sub key) (by have := ckey_size sub key hs hk; unfold maxLen; omega))
  rw [HD.out] at hv
  obtain rfl := ptrElem_inv hv
  clear hv hG'
  go_wp2
  go_ret
  exact ⟨rfl, HW.out⟩

/-- THE CELLS OF A NEW ENTRY. -/
def entCells (bk : ByteArray) (p : Option Addr) (sub key : ByteArray) : Array Value :=
  #[.string bk, .pointer p, .int .i32 0, .int .u32 0, .string sub, .string key, .int .u64 0, .int .u64 0, .string ⟨#[97, 99, 116, 105, 118, 101]⟩, .int .i64 0,
    .string ⟨#[]⟩, .string ⟨#[]⟩, .int .u64 0, .int .i64 0, .pointer none, .int .u64 0, .bool false, .bool false, .pointer none]

set_option maxHeartbeats 1000000 in
set_option maxRecDepth 100000 in
theorem entryOf_new (F : Interp) (N m : Nat) (nm : List ByteArray) (D : DataW Unit) (sub key : ByteArray) (w : World) (hF : F.told.answers w.tape) (hn : nm.length ≤ 1024) (hm : m ≤ 10) (hs : sub.size ≤ 1024) (hk : key.size ≤ 1024)
    (hG : Grp N nm m D w) (hD : Maps.has D (.string (ckey sub key).data.toList) = false) :
    Calls Ybaf.prog 6 #[.pointer (some ⟨N + 2, 0, none⟩), .string sub, .string key] w fun e w' => ∃ eb p, e = .returned (.pointer (some ⟨eb, 0, none⟩)) ∧ N + 2 < eb ∧ eb < w'.heap.size ∧
      IsSub N nm sub (.pointer p) ∧ w'.heap[eb]? = some (.cells (entCells (ckey sub key) p sub key) 73 (0, 0)) ∧
      Grp N nm (m + 1) (D.put (.string (ckey sub key).data.toList) (.lit (.int .i64 eb))) w' ∧ Below N w w' := by
  have HG : Hid (Grp N nm m D w) := hG
  have HD : Hid (Maps.has D (.string (ckey sub key).data.toList) = false) := hD
  clear hG hD
  go_enter Ybaf.func6, Ybaf.ntmps6
  go_wp2_with fail
  refine (checkpointKey_any F sub key _ (by exact hF) hs hk).mono ?_
  rintro e w' ⟨rfl, hw⟩
  have HW : Hid (Below w.heap.size w w') := hw
  clear hw
  have hG' := HG.out.below HW.out HG.out.lt
  have g21 := hG'.c21
  obtain ⟨v, ps, hrun, hv⟩ := hG'.map.lookup law9 Ybaf.underlying46 (zero62 w') ptrElem_nil (keyOf_string_mk Ybaf.underlying9 (s := ckey sub key) (by have := ckey_size sub key hs hk; unfold maxLen; omega))
  rw [atKey_of_not_has HD.out] at hv
  obtain rfl := ptrElem_inv_nil hv
  have HG2 : Hid (Grp N nm m D w') := hG'
  have HLT : Hid (N + 2 < w'.heap.size) := hG'.lt
  clear hv hG'
  go_wp2_with fail
  refine (subscription_any N m nm D sub _ hn HG2.out).mono ?_
  rintro e w2 ⟨v, rfl, hsub, rfl⟩
  obtain ⟨p, rfl⟩ : ∃ p, v = .pointer p := by
    rcases hsub with ⟨rfl, _⟩ | ⟨j, _, rfl, _⟩
    · exact ⟨_, rfl⟩
    · exact ⟨_, rfl⟩
  have HS : Hid (IsSub N nm sub (.pointer p)) := hsub
  have hlt2 := HLT.out
  clear hsub
  go_wp2_with (first | (at_mapUpdate; go_must (refine wpList_mapUpdate_own _ rfl _ _ _ 46 rfl 9 62 law9 Ybaf.underlying46 _ (N + 1) m _ rfl (HG2.out.alloc _).map (by unfold maxLen; omega) _ _ _ rfl rfl (keyOf_string_mk Ybaf.underlying9 (by have := ckey_size sub key hs hk; unfold maxLen; omega)) _ [] (ptrElem_mk _) ?_); intro w1 hown1 hgrow1) | go_in)
  go_ret
  have hal : w2.heap.size < (w2.alloc (.cells (entCells (ckey sub key) p sub key) 73)).heap.size := by simp
  refine ⟨w2.heap.size, p, rfl, hlt2, Nat.lt_of_lt_of_le hal hgrow1.size, HS.out, ?_, (HG2.out.alloc _).stored hgrow1 hown1, ?_⟩
  · exact (hgrow1.block w2.heap.size hal (by intro e; injection e with e; omega)).trans (heap_alloc_new w2 _)
  · have h0 := HG.out.lt
    exact (((HW.out.mono (by omega)).alloc (by omega) _).grown hgrow1 (by simp; omega) (fun j hj => by injection hj with hj; omega))
end Go.Proofs.YbulkhxqFmt
