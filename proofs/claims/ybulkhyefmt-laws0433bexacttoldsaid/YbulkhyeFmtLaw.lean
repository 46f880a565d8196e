/- THE WALK OF LawS0433BExact. -/
import Derived.Test.YbulkhyeFmtStarts
import Derived.Laws.MakeOwn
import Derived.Laws.CopyOwn
namespace Go.Proofs.YbulkhyeFmt
open Go.Extern.Stop Go.Stop Go.Extern Go.Kit Go.RowKit

/-! ### the names that the law makes -/
def itemsAt (ps : List Int) (js : List Nat) (i : Nat) : List (Int ⊕ Nat) := (ps[i]?.map Sum.inl).toList ++ (js[i]?.map Sum.inr).toList
def itemsTo (ps : List Int) (js : List Nat) (k : Nat) : List (Int ⊕ Nat) := (List.range k).flatMap (itemsAt ps js)
theorem itemsTo_succ (ps : List Int) (js : List Nat) (k : Nat) : itemsTo ps js (k + 1) = itemsTo ps js k ++ itemsAt ps js k := by
  unfold itemsTo
  rw [List.range_succ, List.flatMap_append]
  simp
theorem itemsTo_length (ps : List Int) (js : List Nat) : ∀ k, (itemsTo ps js k).length ≤ 2 * k
  | 0 => by simp [itemsTo]
  | k + 1 => by
    have h := itemsTo_length ps js k
    have h1 : (itemsAt ps js k).length ≤ 2 := by
      unfold itemsAt
      cases ps[k]? <;> cases js[k]? <;> simp
    rw [itemsTo_succ, List.length_append]
    omega
theorem itemsTo_pos (ps : List Int) (js : List Nat) : ∀ k, (itemsTo ps js k).filterMap posOf = ps.take k
  | 0 => by simp [itemsTo]
  | k + 1 => by
    rw [itemsTo_succ, List.filterMap_append, itemsTo_pos ps js k, List.take_add_one]
    congr 1
    unfold itemsAt
    cases ps[k]? <;> cases js[k]? <;> simp [posOf]
theorem itemsTo_ok (ps : List Int) (js : List Nat) (hp : ∀ p ∈ ps, -9223372036854775808 ≤ p ∧ p ≤ 9223372036854775807) (hj : ∀ j ∈ js, j < 65536) (k : Nat) : ∀ it ∈ itemsTo ps js k, okI it := by
  intro it hit
  simp only [itemsTo, List.mem_flatMap, itemsAt, List.mem_append] at hit
  obtain ⟨i, _, h | h⟩ := hit
  · cases hq : ps[i]? with
    | none => simp [hq] at h
    | some p =>
      simp [hq] at h
      subst h
      exact hp p (List.mem_of_getElem? hq)
  · cases hq : js[i]? with
    | none => simp [hq] at h
    | some p =>
      simp [hq] at h
      subst h
      exact hj p (List.mem_of_getElem? hq)
def strs (its : List (Int ⊕ Nat)) : List Value := its.map fun it => .string (textOf it)
theorem strs_snoc (a : List (Int ⊕ Nat)) (it : Int ⊕ Nat) : strs (a ++ [it]) = strs a ++ [.string (textOf it)] := by simp [strs]

/-- WHERE A SLICE OF INTEGERS LEADS -/
def SrcI (k : IntKind) (a : Option Addr) (zs : List Int) (w : World) : Prop := zs.length = 0 ∨ ∃ x, a = some x ∧ ∀ j, (h : j < zs.length) → w.cell? (x.add j) = some (.int k zs[j])
theorem SrcI.below {k : IntKind} {a : Option Addr} {zs : List Int} {w w' : World} (h : SrcI k a zs w) (hb : Below w.heap.size w w') : SrcI k a zs w' := by
  rcases h with h | ⟨x, hx, h⟩
  · exact .inl h
  · refine .inr ⟨x, hx, fun j hj => ?_⟩
    rw [hb.cell (block_lt_of_cell (h j hj))]
    exact h j hj
theorem SrcI.at {k : IntKind} {a : Option Addr} {zs : List Int} {w w' : World} (h : SrcI k a zs w) (hb : Below w.heap.size w w') (j : Nat) (hj : j < zs.length) : ∃ x, a = some x ∧ w'.cell? (x.add j) = some (.int k zs[j]) := by
  rcases h.below hb with h | ⟨x, hx, h⟩
  · omega
  · exact ⟨x, hx, h j hj⟩

theorem make_row (w : World) (n : Nat) (hn : n ≤ 4096) : (Instr.makeSlice 22 (.int .i64 (n : Int)) (.int .i64 (n : Int))).run Ybaf.prog w = .ok (.slice (some ⟨w.heap.size, 0, none⟩) n n) (w.alloc (.cells (madeCells #[.int .i64 0] n) 2)) := by
  obtain ⟨i0, hi, hz0, hz1, hz2⟩ := info_parts info2
  have := run_make (P := Ybaf.prog) w 22 2 i0 _ Ybaf.underlying22 hi hz0 .i64 .i64 (n : Int) (n : Int) (by omega) (by omega) (by rw [hz2]; omega) (by omega)
  rw [hz1] at this
  simpa [Value.cells] using this
theorem info2s : (Ybaf.prog.info? 2).map (·.size) = some 1 := by kernel_rfl
def laid0 (c : Nat) : List Value := (madeCells #[.int .i64 0] c).toList
theorem laid0_length (c : Nat) : (laid0 c).length = c := by rw [laid0, Array.length_toList]; exact size_madeCells _ _
theorem laid0_heap (w : World) (c : Nat) : (w.alloc (.cells (madeCells #[.int .i64 0] c) 2)).heap[w.heap.size]? = some (.cells (laid0 c).toArray 2 (0, 0)) := by
  unfold laid0
  rw [Array.toArray_toList]
  exact heap_alloc_new w _
theorem splice_all {L cs : List Value} (h : cs.length = L.length) : splice L 0 cs = cs := by
  simp [splice, h]
theorem ints_one (ps : List Int) : ∀ v ∈ ps.map (Value.int .i64), v.oneCell' = true := by
  intro v hv
  simp only [List.mem_map] at hv
  obtain ⟨_, _, rfl⟩ := hv
  rfl
theorem owns_ints {w : World} {G : Nat} {ps : List Int} (hn : ps.length ≤ 1024) (h : w.heap[G]? = some (.cells (ps.map (Value.int .i64)).toArray 2 (0, 0))) : w.ownsRow G 2 1 (.slice (some ⟨G, 0, none⟩) ps.length ps.length) ps.length (ps.map (.int .i64)) :=
  ⟨by simp, .inr ⟨G, ps.length, _, rfl, Nat.le_refl _, h, Nat.le_refl _, by unfold maxLen; omega, by simp, by rw [Nat.mul_one]; exact List.take_of_length_le (by simp)⟩⟩

/-- a slice of the call's own, opened -/
theorem owns_form {w : World} {base : Nat} {e : TypeId} {v : Value} {n : Nat} {xs : List Value} (h : w.ownsRow base e 1 v n xs) : ∃ na cap, v = .slice na n cap ∧ ∀ j, (hj : j < n) → ∃ g, na = some ⟨g, 0, none⟩ ∧ w.cell? ⟨g, j, none⟩ = xs[j]? := by
  rcases h.2 with ⟨rfl, h0⟩ | ⟨g, cap, cur, rfl, hg, hb, h1, h2, h3, h4⟩
  · subst h0
    exact ⟨none, 0, rfl, fun j hj => by omega⟩
  · exact ⟨_, cap, rfl, fun j hj => ⟨g, rfl, h.cellAt j (by omega)⟩⟩

theorem equal_owned (b1 b2 : Nat) (v1 v2 : Value) (zs : List Int) (w : World) (h1 : w.ownsRow b1 2 1 v1 zs.length (zs.map (.int .i64))) (h2 : w.ownsRow b2 2 1 v2 zs.length (zs.map (.int .i64))) (hz : zs.length ≤ 4096) :
    Calls Ybaf.prog 9 #[v1, v2] w fun e w' => e = .returned (.bool true) ∧ Below w.heap.size w w' := by
  obtain ⟨a1, c1, rfl, f1⟩ := owns_form h1
  obtain ⟨a2, c2, rfl, f2⟩ := owns_form h2
  by_cases h0 : zs.length = 0
  · rw [h0]
    refine (Ybaf.slices_Equal_int_empty a1 a2 c1 0 c2 w (by omega)).mono ?_
    rintro e w' ⟨rfl, rfl⟩
    exact ⟨rfl, Below.refl _ _⟩
  · obtain ⟨g1, rfl, _⟩ := f1 0 (by omega)
    obtain ⟨g2, rfl, _⟩ := f2 0 (by omega)
    have key : ∀ (g : Nat), (∀ j, (hj : j < zs.length) → ∃ g', (some ⟨g, 0, none⟩ : Option Addr) = some ⟨g', 0, none⟩ ∧ w.cell? ⟨g', j, none⟩ = (zs.map (Value.int .i64))[j]?) → ∀ j, j < zs.length → w.cell? ⟨g, 0 + j, none⟩ = some (.int .i64 (zs.getD j 0)) := by
      intro g f j hj
      obtain ⟨g', e, hc⟩ := f j hj
      injection e with e
      injection e with e
      subst e
      rw [Nat.zero_add, hc]
      simp [hj]
    refine (Ybaf.slices_Equal_int g1 0 zs.length c1 g2 0 zs.length c2 zs zs w (Nat.le_refl _) (Nat.le_refl _) (by omega) (by omega) (key g1 f1) (key g2 f2)).mono ?_
    rintro e w' ⟨rfl, q, rfl⟩
    exact ⟨by simp, ⟨rfl, rfl, rfl, Nat.le_refl _, fun _ _ => rfl⟩⟩

/-- the names so far -/
def Names (N : Nat) (v : Value) (its : List (Int ⊕ Nat)) (w wr : World) : Prop := wr.ownsRow N 9 1 v its.length (strs its) ∧ Below N w wr
theorem Names.start (w : World) : Names w.heap.size (.slice none 0 0) [] w w := ⟨World.ownsRow_nil _ _ _ _, Below.refl _ _⟩
theorem Names.below {w wr w2 : World} {v : Value} {its : List (Int ⊕ Nat)} (h : Names w.heap.size v its w wr) (hb : Below wr.heap.size wr w2) : Names w.heap.size v its w w2 :=
  ⟨owns_below h.1 hb, h.2.trans (hb.mono h.2.size)⟩
theorem Names.news {w wr w2 : World} {v : Value} {its : List (Int ⊕ Nat)} (h : Names w.heap.size v its w wr) (hb : Below wr.heap.size wr w2) (o : Obj) : Names w.heap.size v its w (w2.alloc o) :=
  h.below (hb.alloc hb.size _)
theorem one_cell (w2 : World) (S : Value) : ∀ j u, [S][j]? = some u → (w2.alloc (.cells #[S] 9)).cell? ((⟨w2.heap.size, 0, none⟩ : Addr).add j) = some u := by
  intro j u hj
  cases j with
  | zero =>
    simp at hj
    rw [← hj, Addr.add_lit]
    exact (cell_of_row _ _ 0 #[S] 9 (0, 0) (heap_alloc_new w2 _)).trans rfl
  | succ j => simp at hj
theorem one_one (S : ByteArray) : ∀ u ∈ [Value.string S], u.oneCell' = true := by
  intro u hu
  simp at hu
  subst hu
  rfl

set_option maxHeartbeats 4000000 in
set_option maxRecDepth 100000 in
theorem exact_le (F : Interp) (a0 a1 : Option Addr) (cap0 cap1 : Nat) (ps : List Int) (js : List Nat) (w : World) (hV : Vars F w) (hl0 : ps.length ≤ 1024) (hl1 : js.length ≤ 1024) (hord : js.length ≤ ps.length)
    (hp : ∀ p ∈ ps, -9223372036854775808 ≤ p ∧ p ≤ 9223372036854775807) (hj : ∀ j ∈ js, j < 65536) (hS0 : SrcI .i64 a0 ps w) (hS1 : SrcI .u16 a1 (js.map fun (j : Nat) => (j : Int)) w) :
    Calls Ybaf.prog 3 #[.slice a0 ps.length cap0, .slice a1 js.length cap1] w fun e w' => e = .returned (.bool true) ∧ Below w.heap.size w w' := by
  obtain ⟨i9, hi9, hy0, hy1, hy2⟩ := info_parts info9
  have HV : Hid (Vars F w) := hV
  have HP : Hid (∀ p ∈ ps, -9223372036854775808 ≤ p ∧ p ≤ 9223372036854775807) := hp
  have HJ : Hid (∀ j ∈ js, j < 65536) := hj
  have HS0 : Hid (SrcI .i64 a0 ps w) := hS0
  have HS1 : Hid (SrcI .u16 a1 (js.map fun (j : Nat) => (j : Int)) w) := hS1
  clear hV hp hj hS0 hS1
  have b0 : (ps.length : Int) ≤ 1024 := by omega
  have b1 : (js.length : Int) ≤ 1024 := by omega
  have b2 : (js.length : Int) ≤ (ps.length : Int) := by omega
  go_enter Ybaf.func3, Ybaf.ntmps3
  go_wp2_with fail
  rw [show decide (ps.length < js.length) = false from decide_eq_false (by omega)]
  go_loopw [6, 7] (fun v i wr => ∃ k : Nat, k ≤ ps.length ∧ i = .int .i64 k ∧ Hid (Names w.heap.size v (itemsTo ps js k) w wr)) (fun _ i _ => ps.length - (intOf i).toNat)
  case atStart => exact ⟨0, Nat.zero_le _, rfl, Names.start w⟩
  case round =>
    obtain ⟨k, hk, rfl, HO⟩ := hrel
    by_cases hlt : k < ps.length
    · have k0 : (0 : Int) ≤ (k : Int) := by omega
      have k1 : (k : Int) < (ps.length : Int) := by omega
      have hil := itemsTo_length ps js k
      by_cases hkp : k < ps.length
      · obtain ⟨x, rfl, hx⟩ := HS0.out.at HO.out.2 k hkp
        have hpb := HP.out ps[k] (List.getElem_mem hkp)
        have k2 : (k : Int) < (ps.length : Int) := by omega
        have HN : Hid _ := name_any ps[k] hpb.1 hpb.2 wr
        have HI : Hid (itemsAt ps js k = [Sum.inl ps[k]] ++ (js[k]?.map Sum.inr).toList) := by show itemsAt ps js k = _; unfold itemsAt; rw [List.getElem?_eq_getElem hkp]; rfl
        generalize ps[k] = p at hx HN HI
        go_wp2_with fail
        refine (Calls.mono HN.out) ?_
        rintro e w2 ⟨rfl, hb2⟩
        have hA := HO.out.news hb2 (.cells #[.string (nameOf p)] 9)
        have hcs := one_cell w2 (.string (nameOf p))
        have hown := hA.1
        have hsz := hA.2.size
        have HA : Hid _ := hA
        clear hA hb2 hx
        go_wp2_with (at_builtin; refine wpList_append_own _ rfl _ _ 24 rfl w.heap.size 9 i9 (.string ⟨#[]⟩) 1 16 Ybaf.underlying24 hi9 hy0 hy1 hy2 rfl (by decide) _ _ _ rfl hown ⟨w2.heap.size, 0, none⟩ 1 1 [.string (nameOf p)] rfl rfl hcs (one_one _) ?c3 ?c4 hsz ?_)
        case c3 => unfold maxLen; omega
        case c4 => omega
        intro v' w4 hown' hgrow _
        have HO4 : Hid (Names w.heap.size v' (itemsTo ps js k ++ [Sum.inl p]) w w4) := by
          refine ⟨?_, HA.out.2.grown hgrow hsz (fun j hj => (hown.lt j hj).1)⟩
          rw [strs_snoc, List.length_append]
          exact hown'
        clear hown hown' hgrow hcs hsz
        by_cases hkj : k < js.length
        · obtain ⟨x1, rfl, hx1⟩ := HS1.out.at HO4.out.2 k (by simpa using hkj)
          rw [List.getElem_map] at hx1
          have hjb := HJ.out js[k] (List.getElem_mem hkj)
          have k3 : (k : Int) < (js.length : Int) := by omega
          have HNJ : Hid _ := junk_any F js[k] hjb w4 (HV.out.below HO4.out.2)
          rw [List.getElem?_eq_getElem hkj] at HI
          generalize js[k] = q at hx1 HNJ HI
          go_wp2_with fail
          refine (Calls.mono HNJ.out) ?_
          rintro e w5 ⟨rfl, hb5⟩
          have hA := HO4.out.news hb5 (.cells #[.string (junkOf q)] 9)
          have hcs := one_cell w5 (.string (junkOf q))
          have hown := hA.1
          have hsz := hA.2.size
          have HA5 : Hid _ := hA
          clear hA hb5 hx1
          go_wp2_with (at_builtin; refine wpList_append_own _ rfl _ _ 24 rfl w.heap.size 9 i9 (.string ⟨#[]⟩) 1 16 Ybaf.underlying24 hi9 hy0 hy1 hy2 rfl (by decide) _ _ _ rfl hown ⟨w5.heap.size, 0, none⟩ 1 1 [.string (junkOf q)] rfl rfl hcs (one_one _) ?c3 ?c4 hsz ?_)
          case c3 => (try simp only [List.length_append, List.length_cons, List.length_nil]); unfold maxLen; omega
          case c4 => (try simp only [List.length_append, List.length_cons, List.length_nil]); omega
          intro v7 w7 hown' hgrow _
          have HO7 : Hid (Names w.heap.size v7 (itemsTo ps js (k + 1)) w w7) := by
            refine ⟨?_, HA5.out.2.grown hgrow hsz (fun j hj => (hown.lt j hj).1)⟩
            rw [itemsTo_succ, HI.out, Option.map_some, Option.toList_some, ← List.append_assoc, strs_snoc, List.length_append, List.length_append]
            exact hown'
          clear hown hown' hgrow hcs hsz
          go_wp2_with fail
          go_roundw
          case rel => first | exact ⟨k + 1, hlt, by go_num, HO7.out⟩ | ((repeat apply Exists.intro); exact ⟨⟨k + 1, hlt, by go_num, HO7.out⟩, rfl⟩)
          case measure => simp [intOf]; omega
        · have k3 : ¬ ((k : Int) < (js.length : Int)) := by omega
          have HO6 : Hid (Names w.heap.size v' (itemsTo ps js (k + 1)) w w4) := by
            show Names _ _ _ _ _
            rw [itemsTo_succ, HI.out, List.getElem?_eq_none (by omega)]
            exact HO4.out
          go_wp2_with fail
          refine ⟨⟨k + 1, hlt, by go_num, HO6.out⟩, ?_⟩
          simp [intOf]; omega
      · exact absurd hlt hkp
    · obtain rfl : k = ps.length := by omega
      have hpos := itemsTo_pos ps js ps.length
      rw [List.take_of_length_le (by omega)] at hpos
      have hil := itemsTo_length ps js ps.length
      have hok := itemsTo_ok ps js HP.out HJ.out ps.length
      generalize itemsTo ps js ps.length = its at hpos hil hok HO
      have HOK : Hid _ := hok
      clear hok
      have HW1 : Hid _ := laid0_heap wr ps.length
      have hmk := make_row wr ps.length (by omega)
      have HPOS : Hid (0 < (ps.map (Value.int .i64)).length → (some ⟨wr.heap.size, 0, none⟩ : Option Addr) = some ⟨wr.heap.size, 0, none⟩ ∧ ∃ ad, a0 = some ad ∧ ∀ j v, (ps.map (Value.int .i64))[j]? = some v → (wr.alloc (.cells (madeCells #[.int .i64 0] ps.length) 2)).cell? (ad.add j) = some v) := by
        intro h0
        rw [List.length_map] at h0
        refine ⟨rfl, ?_⟩
        have hbb : Below w.heap.size w (wr.alloc (.cells (madeCells #[.int .i64 0] ps.length) 2)) := HO.out.2.alloc HO.out.2.size _
        obtain ⟨x, hx, _⟩ := HS0.out.at hbb 0 h0
        refine ⟨x, hx, fun j v hv => ?_⟩
        have hj : j < ps.length := by
          rcases Nat.lt_or_ge j ps.length with h' | h'
          · exact h'
          · rw [List.getElem?_eq_none (by simpa using h')] at hv; cases hv
        obtain ⟨x', hx', hc⟩ := HS0.out.at hbb j hj
        rw [hx] at hx'
        injection hx' with hx'
        subst hx'
        rw [hc]
        simpa [hj] using hv
      have HB1 : Hid (Below wr.heap.size wr (wr.alloc (.cells (madeCells #[.int .i64 0] ps.length) 2))) := (Below.refl _ wr).alloc (Nat.le_refl _) _
      go_wp2_with (first | (refine wpList_copy_splice rfl _ _ _ _ rfl 2 Ybaf.underlying22 info2s _ _ _ _ _ _ rfl rfl wr.heap.size 0 (laid0 ps.length) 2 HW1.out (ps.map (.int .i64)) (by rw [List.length_map]; exact (Nat.min_self _).symm) HPOS.out (by rw [List.length_map, laid0_length]; omega) (ints_one _) wr.heap.size wr HB1.out (Nat.le_refl _) ?_; intro w2 HG2 hB2) | fail)
      have hG2 := HG2.out
      rw [splice_all (by rw [List.length_map, laid0_length])] at hG2
      have hW2 := owns_ints hl0 hG2
      have hN2 := HO.out.below hB2
      clear hG2 HG2 HW1 hmk HPOS HB1
      refine (sort_owned wr.heap.size _ ps w2 hW2 (by omega)).mono ?_
      rintro e w3 ⟨rfl, hW3, hgrow⟩
      have hN3 : Names w.heap.size u6 its w w3 := by
        refine ⟨hN2.1.kept hgrow ?_, hN2.2.grown hgrow hN2.2.size (fun j hj => by simp [Value.ownBlock] at hj; have := HO.out.2.size; omega)⟩
        cases hq : u6.ownBlock with
        | none => exact .inl rfl
        | some b =>
          right
          have := (HO.out.1.lt b hq).2
          simp [Value.ownBlock]
          omega
      have hV3 := HV.out.below hN3.2
      obtain ⟨na, ncap, rfl, hform⟩ := owns_form hN3.1
      have HST : Hid _ := starts_any F its na ncap w3 hV3 (by omega) HOK.out (fun j hj => by
        obtain ⟨g, e, hc⟩ := hform j hj
        exact ⟨g, e, by rw [hc]; simp [strs, hj]⟩)
      rw [hpos] at HST
      have HW3 : Hid _ := hW3
      have HN3 : Hid _ := hN3
      clear hW3 hN3 hN2 hW2 hB2 hgrow hform hV3 HO
      go_wp2_with fail
      refine (Calls.mono HST.out) ?_
      rintro e w4 ⟨v4, rfl, hO4, hB4⟩
      have hW4 := owns_below HW3.out hB4
      rw [← sorted_length] at hO4 hW4
      have HEQ : Hid _ := equal_owned _ _ v4 _ (sorted ps) w4 hO4 hW4 (by rw [sorted_length]; omega)
      have HB4 : Hid (Below w.heap.size w w4) := HN3.out.2.trans (hB4.mono HN3.out.2.size)
      rw [sorted_length] at HEQ
      clear hO4 hW4 hB4
      go_wp2_with fail
      refine (Calls.mono HEQ.out) ?_
      rintro e w5 ⟨rfl, hB5⟩
      have HB5 : Hid (Below w.heap.size w w5) := HB4.out.trans (hB5.mono HB4.out.size)
      clear hB5
      go_wp2
      go_ret
      exact ⟨rfl, HB5.out⟩

set_option maxHeartbeats 4000000 in
set_option maxRecDepth 100000 in
theorem exact_gt (F : Interp) (a0 a1 : Option Addr) (cap0 cap1 : Nat) (ps : List Int) (js : List Nat) (w : World) (hV : Vars F w) (hl0 : ps.length ≤ 1024) (hl1 : js.length ≤ 1024) (hord : ps.length < js.length)
    (hp : ∀ p ∈ ps, -9223372036854775808 ≤ p ∧ p ≤ 9223372036854775807) (hj : ∀ j ∈ js, j < 65536) (hS0 : SrcI .i64 a0 ps w) (hS1 : SrcI .u16 a1 (js.map fun (j : Nat) => (j : Int)) w) :
    Calls Ybaf.prog 3 #[.slice a0 ps.length cap0, .slice a1 js.length cap1] w fun e w' => e = .returned (.bool true) ∧ Below w.heap.size w w' := by
  obtain ⟨i9, hi9, hy0, hy1, hy2⟩ := info_parts info9
  have HV : Hid (Vars F w) := hV
  have HP : Hid (∀ p ∈ ps, -9223372036854775808 ≤ p ∧ p ≤ 9223372036854775807) := hp
  have HJ : Hid (∀ j ∈ js, j < 65536) := hj
  have HS0 : Hid (SrcI .i64 a0 ps w) := hS0
  have HS1 : Hid (SrcI .u16 a1 (js.map fun (j : Nat) => (j : Int)) w) := hS1
  clear hV hp hj hS0 hS1
  have b0 : (ps.length : Int) ≤ 1024 := by omega
  have b1 : (js.length : Int) ≤ 1024 := by omega
  have b2 : (ps.length : Int) < (js.length : Int) := by omega
  go_enter Ybaf.func3, Ybaf.ntmps3
  go_wp2_with fail
  go_loopw [6, 7] (fun v i wr => ∃ k : Nat, k ≤ js.length ∧ i = .int .i64 k ∧ Hid (Names w.heap.size v (itemsTo ps js k) w wr)) (fun _ i _ => js.length - (intOf i).toNat)
  case atStart => exact ⟨0, Nat.zero_le _, rfl, Names.start w⟩
  case round =>
    obtain ⟨k, hk, rfl, HO⟩ := hrel
    by_cases hlt : k < js.length
    · have k0 : (0 : Int) ≤ (k : Int) := by omega
      have k1 : (k : Int) < (js.length : Int) := by omega
      have hil := itemsTo_length ps js k
      by_cases hkp : k < ps.length
      · obtain ⟨x, rfl, hx⟩ := HS0.out.at HO.out.2 k hkp
        have hpb := HP.out ps[k] (List.getElem_mem hkp)
        have k2 : (k : Int) < (ps.length : Int) := by omega
        have HN : Hid _ := name_any ps[k] hpb.1 hpb.2 wr
        have HI : Hid (itemsAt ps js k = [Sum.inl ps[k]] ++ (js[k]?.map Sum.inr).toList) := by show itemsAt ps js k = _; unfold itemsAt; rw [List.getElem?_eq_getElem hkp]; rfl
        generalize ps[k] = p at hx HN HI
        go_wp2_with fail
        refine (Calls.mono HN.out) ?_
        rintro e w2 ⟨rfl, hb2⟩
        have hA := HO.out.news hb2 (.cells #[.string (nameOf p)] 9)
        have hcs := one_cell w2 (.string (nameOf p))
        have hown := hA.1
        have hsz := hA.2.size
        have HA : Hid _ := hA
        clear hA hb2 hx
        go_wp2_with (at_builtin; refine wpList_append_own _ rfl _ _ 24 rfl w.heap.size 9 i9 (.string ⟨#[]⟩) 1 16 Ybaf.underlying24 hi9 hy0 hy1 hy2 rfl (by decide) _ _ _ rfl hown ⟨w2.heap.size, 0, none⟩ 1 1 [.string (nameOf p)] rfl rfl hcs (one_one _) ?c3 ?c4 hsz ?_)
        case c3 => unfold maxLen; omega
        case c4 => omega
        intro v' w4 hown' hgrow _
        have HO4 : Hid (Names w.heap.size v' (itemsTo ps js k ++ [Sum.inl p]) w w4) := by
          refine ⟨?_, HA.out.2.grown hgrow hsz (fun j hj => (hown.lt j hj).1)⟩
          rw [strs_snoc, List.length_append]
          exact hown'
        clear hown hown' hgrow hcs hsz
        by_cases hkj : k < js.length
        · obtain ⟨x1, rfl, hx1⟩ := HS1.out.at HO4.out.2 k (by simpa using hkj)
          rw [List.getElem_map] at hx1
          have hjb := HJ.out js[k] (List.getElem_mem hkj)
          have k3 : (k : Int) < (js.length : Int) := by omega
          have HNJ : Hid _ := junk_any F js[k] hjb w4 (HV.out.below HO4.out.2)
          rw [List.getElem?_eq_getElem hkj] at HI
          generalize js[k] = q at hx1 HNJ HI
          go_wp2_with fail
          refine (Calls.mono HNJ.out) ?_
          rintro e w5 ⟨rfl, hb5⟩
          have hA := HO4.out.news hb5 (.cells #[.string (junkOf q)] 9)
          have hcs := one_cell w5 (.string (junkOf q))
          have hown := hA.1
          have hsz := hA.2.size
          have HA5 : Hid _ := hA
          clear hA hb5 hx1
          go_wp2_with (at_builtin; refine wpList_append_own _ rfl _ _ 24 rfl w.heap.size 9 i9 (.string ⟨#[]⟩) 1 16 Ybaf.underlying24 hi9 hy0 hy1 hy2 rfl (by decide) _ _ _ rfl hown ⟨w5.heap.size, 0, none⟩ 1 1 [.string (junkOf q)] rfl rfl hcs (one_one _) ?c3 ?c4 hsz ?_)
          case c3 => (try simp only [List.length_append, List.length_cons, List.length_nil]); unfold maxLen; omega
          case c4 => (try simp only [List.length_append, List.length_cons, List.length_nil]); omega
          intro v7 w7 hown' hgrow _
          have HO7 : Hid (Names w.heap.size v7 (itemsTo ps js (k + 1)) w w7) := by
            refine ⟨?_, HA5.out.2.grown hgrow hsz (fun j hj => (hown.lt j hj).1)⟩
            rw [itemsTo_succ, HI.out, Option.map_some, Option.toList_some, ← List.append_assoc, strs_snoc, List.length_append, List.length_append]
            exact hown'
          clear hown hown' hgrow hcs hsz
          go_wp2_with fail
          go_roundw
          case rel => first | exact ⟨k + 1, hlt, by go_num, HO7.out⟩ | ((repeat apply Exists.intro); exact ⟨⟨k + 1, hlt, by go_num, HO7.out⟩, rfl⟩)
          case measure => simp [intOf]; omega
        · exact absurd hlt hkj
      · have k2 : ¬ ((k : Int) < (ps.length : Int)) := by omega
        have hkj : k < js.length := by omega
        have HI : Hid (itemsAt ps js k = [] ++ (js[k]?.map Sum.inr).toList) := by show itemsAt ps js k = _; unfold itemsAt; rw [List.getElem?_eq_none (by omega)]; rfl
        obtain ⟨x1, rfl, hx1⟩ := HS1.out.at HO.out.2 k (by simpa using hkj)
        rw [List.getElem_map] at hx1
        have hjb := HJ.out js[k] (List.getElem_mem hkj)
        have k3 : (k : Int) < (js.length : Int) := by omega
        have HNJ : Hid _ := junk_any F js[k] hjb wr (HV.out.below HO.out.2)
        rw [List.getElem?_eq_getElem hkj] at HI
        generalize js[k] = q at hx1 HNJ HI
        go_wp2_with fail
        refine (Calls.mono HNJ.out) ?_
        rintro e w5 ⟨rfl, hb5⟩
        have hA := HO.out.news hb5 (.cells #[.string (junkOf q)] 9)
        have hcs := one_cell w5 (.string (junkOf q))
        have hown := hA.1
        have hsz := hA.2.size
        have HA5 : Hid _ := hA
        clear hA hb5 hx1
        go_wp2_with (at_builtin; refine wpList_append_own _ rfl _ _ 24 rfl w.heap.size 9 i9 (.string ⟨#[]⟩) 1 16 Ybaf.underlying24 hi9 hy0 hy1 hy2 rfl (by decide) _ _ _ rfl hown ⟨w5.heap.size, 0, none⟩ 1 1 [.string (junkOf q)] rfl rfl hcs (one_one _) ?c3 ?c4 hsz ?_)
        case c3 => (try simp only [List.length_append, List.length_cons, List.length_nil]); unfold maxLen; omega
        case c4 => (try simp only [List.length_append, List.length_cons, List.length_nil]); omega
        intro v7 w7 hown' hgrow _
        have HO7 : Hid (Names w.heap.size v7 (itemsTo ps js (k + 1)) w w7) := by
          refine ⟨?_, HA5.out.2.grown hgrow hsz (fun j hj => (hown.lt j hj).1)⟩
          rw [itemsTo_succ, HI.out, Option.map_some, Option.toList_some, List.nil_append, strs_snoc, List.length_append]
          exact hown'
        clear hown hown' hgrow hcs hsz
        go_wp2_with fail
        go_roundw
        case rel => first | exact ⟨k + 1, hlt, by go_num, HO7.out⟩ | ((repeat apply Exists.intro); exact ⟨⟨k + 1, hlt, by go_num, HO7.out⟩, rfl⟩)
        case measure => simp [intOf]; omega
    · obtain rfl : k = js.length := by omega
      have hpos := itemsTo_pos ps js js.length
      rw [List.take_of_length_le (by omega)] at hpos
      have hil := itemsTo_length ps js js.length
      have hok := itemsTo_ok ps js HP.out HJ.out js.length
      generalize itemsTo ps js js.length = its at hpos hil hok HO
      have HOK : Hid _ := hok
      clear hok
      have HW1 : Hid _ := laid0_heap wr ps.length
      have hmk := make_row wr ps.length (by omega)
      have HPOS : Hid (0 < (ps.map (Value.int .i64)).length → (some ⟨wr.heap.size, 0, none⟩ : Option Addr) = some ⟨wr.heap.size, 0, none⟩ ∧ ∃ ad, a0 = some ad ∧ ∀ j v, (ps.map (Value.int .i64))[j]? = some v → (wr.alloc (.cells (madeCells #[.int .i64 0] ps.length) 2)).cell? (ad.add j) = some v) := by
        intro h0
        rw [List.length_map] at h0
        refine ⟨rfl, ?_⟩
        have hbb : Below w.heap.size w (wr.alloc (.cells (madeCells #[.int .i64 0] ps.length) 2)) := HO.out.2.alloc HO.out.2.size _
        obtain ⟨x, hx, _⟩ := HS0.out.at hbb 0 h0
        refine ⟨x, hx, fun j v hv => ?_⟩
        have hj : j < ps.length := by
          rcases Nat.lt_or_ge j ps.length with h' | h'
          · exact h'
          · rw [List.getElem?_eq_none (by simpa using h')] at hv; cases hv
        obtain ⟨x', hx', hc⟩ := HS0.out.at hbb j hj
        rw [hx] at hx'
        injection hx' with hx'
        subst hx'
        rw [hc]
        simpa [hj] using hv
      have HB1 : Hid (Below wr.heap.size wr (wr.alloc (.cells (madeCells #[.int .i64 0] ps.length) 2))) := (Below.refl _ wr).alloc (Nat.le_refl _) _
      go_wp2_with (first | (refine wpList_copy_splice rfl _ _ _ _ rfl 2 Ybaf.underlying22 info2s _ _ _ _ _ _ rfl rfl wr.heap.size 0 (laid0 ps.length) 2 HW1.out (ps.map (.int .i64)) (by rw [List.length_map]; exact (Nat.min_self _).symm) HPOS.out (by rw [List.length_map, laid0_length]; omega) (ints_one _) wr.heap.size wr HB1.out (Nat.le_refl _) ?_; intro w2 HG2 hB2) | fail)
      have hG2 := HG2.out
      rw [splice_all (by rw [List.length_map, laid0_length])] at hG2
      have hW2 := owns_ints hl0 hG2
      have hN2 := HO.out.below hB2
      clear hG2 HG2 HW1 hmk HPOS HB1
      refine (sort_owned wr.heap.size _ ps w2 hW2 (by omega)).mono ?_
      rintro e w3 ⟨rfl, hW3, hgrow⟩
      have hN3 : Names w.heap.size u6 its w w3 := by
        refine ⟨hN2.1.kept hgrow ?_, hN2.2.grown hgrow hN2.2.size (fun j hj => by simp [Value.ownBlock] at hj; have := HO.out.2.size; omega)⟩
        cases hq : u6.ownBlock with
        | none => exact .inl rfl
        | some b =>
          right
          have := (HO.out.1.lt b hq).2
          simp [Value.ownBlock]
          omega
      have hV3 := HV.out.below hN3.2
      obtain ⟨na, ncap, rfl, hform⟩ := owns_form hN3.1
      have HST : Hid _ := starts_any F its na ncap w3 hV3 (by omega) HOK.out (fun j hj => by
        obtain ⟨g, e, hc⟩ := hform j hj
        exact ⟨g, e, by rw [hc]; simp [strs, hj]⟩)
      rw [hpos] at HST
      have HW3 : Hid _ := hW3
      have HN3 : Hid _ := hN3
      clear hW3 hN3 hN2 hW2 hB2 hgrow hform hV3 HO
      go_wp2_with fail
      refine (Calls.mono HST.out) ?_
      rintro e w4 ⟨v4, rfl, hO4, hB4⟩
      have hW4 := owns_below HW3.out hB4
      rw [← sorted_length] at hO4 hW4
      have HEQ : Hid _ := equal_owned _ _ v4 _ (sorted ps) w4 hO4 hW4 (by rw [sorted_length]; omega)
      have HB4 : Hid (Below w.heap.size w w4) := HN3.out.2.trans (hB4.mono HN3.out.2.size)
      rw [sorted_length] at HEQ
      clear hO4 hW4 hB4
      go_wp2_with fail
      refine (Calls.mono HEQ.out) ?_
      rintro e w5 ⟨rfl, hB5⟩
      have HB5 : Hid (Below w.heap.size w w5) := HB4.out.trans (hB5.mono HB4.out.size)
      clear hB5
      go_wp2
      go_ret
      exact ⟨rfl, HB5.out⟩
end Go.Proofs.YbulkhyeFmt
