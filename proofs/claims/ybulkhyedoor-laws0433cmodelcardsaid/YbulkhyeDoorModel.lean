/- THE WALK OF LawS0433CModel. -/
import Derived.Test.YbulkhyeDoorRound
namespace Go.Proofs.YbulkhyeDoor
open Go.RowKit

/-- what zzs0433cval answers -/
def valOf (c : Int) : Int := if hexB c = true then dig c else -1
theorem valOf_hex {c : Int} (h : hexB c = true) : valOf c = dig c := by simp [valOf, h]
theorem valOf_bad {c : Int} (h : hexB c = false) : valOf c = -1 := by simp [valOf, h]

set_option maxHeartbeats 1000000 in
set_option maxRecDepth 100000 in
theorem val_any (x : Int) (h0 : 0 ≤ x) (h1 : x < 256) (w : World) : Calls Ybad.prog 10 #[.int .u8 x] w fun e w' => e = .returned (.int .i64 (valOf x)) ∧ w' = w := by
  by_cases q1 : 48 ≤ x ∧ x ≤ 57
  · obtain ⟨a, b⟩ := q1
    have hv : valOf x = x - 48 := by unfold valOf hexB dig; simp [a, b]
    go_enter Ybad.func10, Ybad.ntmps10
    go_wp2
    go_ret
    first | exact ⟨rfl, rfl⟩ | exact ⟨by rw [hv]; rfl, rfl⟩
  · by_cases q2 : 97 ≤ x ∧ x ≤ 102
    · obtain ⟨a, b⟩ := q2
      have hv : valOf x = x - 87 := by unfold valOf hexB dig; simp [a, b]; omega
      have n1 : ¬ x ≤ 57 := by omega
      have n2 : 48 ≤ x := by omega
      go_enter Ybad.func10, Ybad.ntmps10
      go_wp2
      go_ret
      exact ⟨congrArg (fun z => Ending.returned (.int .i64 z)) (show x - 97 + 10 = x - 87 by omega), rfl⟩
    · have hv : valOf x = -1 := by unfold valOf hexB; simp; omega
      go_enter Ybad.func10, Ybad.ntmps10
      go_wp2
      all_goals first | (exfalso; simp at *; omega) | (go_ret; first | exact ⟨rfl, rfl⟩ | exact ⟨by rw [hv]; rfl, rfl⟩)

theorem or_fin : ∀ a b : Fin 16, bits .or .i64 ((a.val : Int) * 16) (b.val : Int) = (a.val : Int) * 16 + (b.val : Int) := by decide +kernel
theorem or_dig (a b : Int) (ha : 0 ≤ a ∧ a < 16) (hb : 0 ≤ b ∧ b < 16) : bits .or .i64 (a * 16) b = a * 16 + b := by
  have := or_fin ⟨a.toNat, by omega⟩ ⟨b.toNat, by omega⟩
  simp only at this
  rw [show ((a.toNat : Nat) : Int) = a by omega, show ((b.toNat : Nat) : Int) = b by omega] at this
  exact this

theorem wrap64 {x : Int} (h0 : 0 ≤ x) (h1 : x < 9223372036854775808) : IntKind.i64.wrap x = x := by
  simp [IntKind.wrap, IntKind.bits, IntKind.signed]
  split <;> omega
/-- THE END OF A WAY of the model -/
theorem ret_pair7 {N : Nat} {W : World} {C : Array Value} {b : Bool} {tmps : Array Value} {Q : Ending → World → Prop} (hg : W.heap[N]? = some (.cells C 22 (0, 0))) (hC : C.size = 32) (h2 : tmps.getD 2 undef = .pointer (some ⟨N, 0, none⟩)) (h3 : tmps.getD 3 undef = .bool b)
    (hQ : Q (.returned (.tuple #[.agg C, .bool b])) W) : bodyPost Ybad.prog Ybad.f7 Q Exit.ret ⟨tmps, []⟩ W := by
  have hl := run_loadVar_row (P := Ybad.prog) W N 22 22 C (0, 0) _ hg Ybad.underlying22 rfl (by rw [hC]; exact info22)
  have h2' : tmps[2]?.getD undef = .pointer (some ⟨N, 0, none⟩) := by simpa using h2
  have h3' : tmps[3]?.getD undef = .bool b := by simpa using h3
  exact bodyPost_ret (v := .tuple #[.agg C, .bool b]) (by simp [results, Ybad.results7, asAddr, hl, h2', h3']) rfl hQ
theorem model_ret_zero {w W : World} {tmps : Array Value} (hT : Two w.heap.size w W) (h2 : tmps.getD 2 undef = .pointer (some ⟨w.heap.size, 0, none⟩)) (h3 : tmps.getD 3 undef = .bool false) :
    bodyPost Ybad.prog Ybad.f7 (fun e w' => e = .returned (.tuple #[.agg zcells, .bool false]) ∧ Below w.heap.size w w') Exit.ret ⟨tmps, []⟩ (W.setRow w.heap.size zcells) :=
  ret_pair7 (setRow_heap_same W w.heap.size zcells _ 22 hT.r) rfl h2 h3 ⟨rfl, below_setRow hT.below (Nat.le_refl _) _⟩

/-- h while the second loop runs -/
def halfRow (s : ByteArray) (k : Nat) (j : Nat) : Value := if j < k then .int .u8 (hb s j) else .int .u8 0
theorem half_cells (s : ByteArray) (c : Array Value) (hcs : c.size = 32) (hcv : ∀ i, i < 32 → c[i]? = some (halfRow s 32 i)) : c = hcells s := by
  apply Array.ext_getElem?
  intro i
  by_cases hi : i < 32
  · rw [hcv i hi, hcells_at s i hi]; simp [halfRow, hi]
  · rw [Array.getElem?_eq_none (by omega), Array.getElem?_eq_none (by rw [hcells_size]; omega)]

set_option maxHeartbeats 1000000 in
set_option maxRecDepth 100000 in
theorem model_short (s : ByteArray) (w : World) (_hs : s.size ≤ maxLen) (h64 : ((s.size : Int) != 64) = true) :
    Calls Ybad.prog 7 #[.string s] w fun e w' => e = .returned (.tuple #[.agg zcells, .bool false]) ∧ Below w.heap.size w w' := by
  have HT : Hid (Two w.heap.size w ((w.alloc (.cells zcells 22)).alloc (.cells zcells 22))) := two_start w
  have hr := HT.out.r
  have hh := HT.out.h
  go_enter Ybad.func7, Ybad.ntmps7
  go_wp2_with (first | (refine wpList_load_row rfl 22 _ rfl _ rfl 22 zcells (0, 0) _ hh Ybad.underlying22 rfl (by exact info22) ?_) | (refine wpList_store_row rfl 22 _ _ rfl _ zcells rfl rfl 22 zcells hr (by exact info22) rfl zcells_one ?_) | fail)
  exact model_ret_zero HT.out rfl rfl

set_option maxHeartbeats 2000000 in
set_option maxRecDepth 100000 in
theorem model_64 (s : ByteArray) (w : World) (h64 : s.size = 64) :
    Calls Ybad.prog 7 #[.string s] w fun e w' => e = .returned (.tuple #[.agg (hval s), .bool (okH s)]) ∧ Below w.heap.size w w' := by
  have HT0 : Hid (Two w.heap.size w ((w.alloc (.cells zcells 22)).alloc (.cells zcells 22))) := two_start w
  go_enter Ybad.func7, Ybad.ntmps7
  go_wp2_with fail
  obtain ⟨W, hW⟩ : ∃ W, W = (w.alloc (.cells zcells 22)).alloc (.cells zcells 22) := ⟨_, rfl⟩
  rw [← hW] at HT0
  unfold zcells at hW
  rw [← hW]
  clear hW
  have hr := HT0.out.r
  have hh := HT0.out.h
  have hsz := HT0.out.size
  go_loop [5] (fun i => ∃ k : Nat, k ≤ 64 ∧ i = .int .i64 k ∧ Hid (∀ j, j < k → hexB (sat s j) = true)) (fun i => 64 - (intOf i).toNat)
  case atStart => exact ⟨0, Nat.zero_le _, rfl, fun j hj => by omega⟩
  case round =>
    obtain ⟨k, hk, rfl, HP⟩ := hrel
    by_cases hlt : k < 64
    · have hks : k < s.size := by omega
      have ESAT : Hid (sat s k = (s[k].toNat : Int)) := sat_at s k hks
      cases hq : hexB (sat s k)
      · have hok := okH_bad hlt hq
        have hv := hval_bad hok
        have hva := valOf_bad hq
        rw [ESAT.out] at hva
        clear hq
        go_wp2_with fail
        refine (val_any _ (Int.natCast_nonneg _) (by have := (s[k]'hks).toNat_lt; omega) _).mono ?_
        rintro e w2 ⟨rfl, rfl⟩
        rw [hva]
        go_wp2_with (first | (refine wpList_load_row rfl 22 _ rfl _ rfl 22 zcells (0, 0) _ hh Ybad.underlying22 rfl (by exact info22) ?_) | (refine wpList_store_row rfl 22 _ _ rfl _ zcells rfl rfl 22 zcells hr (by exact info22) rfl zcells_one ?_) | fail)
        rw [hv, hok]
        exact model_ret_zero HT0.out rfl rfl
      · have HQ : Hid (hexB (sat s k) = true) := hq
        have hbd := dig_bd hq
        have hva := valOf_hex hq
        rw [ESAT.out] at hva hbd
        clear hq
        go_wp2_with fail
        refine (val_any _ (Int.natCast_nonneg _) (by have := (s[k]'hks).toNat_lt; omega) _).mono ?_
        rintro e w2 ⟨rfl, rfl⟩
        rw [hva]
        generalize dig (s[k].toNat : Int) = d at hbd
        obtain ⟨d0, d1⟩ := hbd
        clear hva
        go_wp2_with fail
        go_round
        case rel => exact ⟨k + 1, by omega, by go_num, fun j hj => by
          by_cases e : j = k
          · subst e; exact HQ.out
          · exact HP.out j (by omega)⟩
        case measure => simp [intOf]; omega
    · obtain rfl : k = 64 := by omega
      have hok : okH s = true := (okH_iff s).2 ⟨h64, HP.out⟩
      have hv := hval_good hok
      clear hr hh
      go_wp2_with fail
      go_loopw [6] (fun i wr => ∃ k : Nat, k ≤ 32 ∧ i = .int .i64 k ∧ Hid (wr.rowIs (w.heap.size + 1) 22 32 (halfRow s k)) ∧ Hid (wr.heap[w.heap.size]? = some (.cells zcells 22 (0, 0))) ∧ Hid (Below w.heap.size w wr)) (fun i _ => 32 - (intOf i).toNat)
      case atStart =>
        refine ⟨0, Nat.zero_le _, rfl, ?_, HT0.out.r, HT0.out.below⟩
        exact ⟨zcells, HT0.out.h, rfl, fun i hi => by rw [zcells_rep]; simp [hi, halfRow]⟩
      case round =>
        obtain ⟨k, hk, rfl, HR, HG, HB⟩ := hrel
        by_cases hlt : k < 32
        · have hcell := HR.out.cell hlt
          have hfro := HR.out.frozen k
          generalize halfRow s k k = old at hcell
          have hb1 := dig_bd (HP.out (2 * k) (by omega))
          have hb2 := dig_bd (HP.out (2 * k + 1) (by omega))
          have hor := or_dig _ _ hb1 hb2
          obtain ⟨d1, hd1⟩ : ∃ d, d = dig (sat s (2 * k)) := ⟨_, rfl⟩
          obtain ⟨d2, hd2⟩ : ∃ d, d = dig (sat s (2 * k + 1)) := ⟨_, rfl⟩
          have hv1 : ∀ (j : Nat) (hj : j < s.size) (W : World), j = 2 * k → Calls Ybad.prog 10 #[.int .u8 (s[j].toNat : Int)] W fun e w' => e = .returned (.int .i64 d1) ∧ w' = W := by
            intro j hj W e
            subst e
            rw [hd1, ← valOf_hex (HP.out (2 * k) (by omega)), sat_at s _ hj]
            exact val_any _ (Int.natCast_nonneg _) (by have := (s[2 * k]'hj).toNat_lt; omega) W
          have hv2 : ∀ (j : Nat) (hj : j < s.size) (W : World), j = 2 * k + 1 → Calls Ybad.prog 10 #[.int .u8 (s[j].toNat : Int)] W fun e w' => e = .returned (.int .i64 d2) ∧ w' = W := by
            intro j hj W e
            subst e
            rw [hd2, ← valOf_hex (HP.out (2 * k + 1) (by omega)), sat_at s _ hj]
            exact val_any _ (Int.natCast_nonneg _) (by have := (s[2 * k + 1]'hj).toNat_lt; omega) W
          have HHB : Hid (hb s k = d1 * 16 + d2) := by subst hd1 hd2; rfl
          rw [← hd1] at hb1 hor
          rw [← hd2] at hb2 hor
          clear hd1 hd2
          obtain ⟨a1, a2⟩ := hb1
          obtain ⟨b1, b2⟩ := hb2
          have hk0 : (0 : Int) ≤ (k : Int) := by omega
          have hk1 : (k : Int) < 32 := by omega
          have i1 : 2 * (k : Int) < 64 := by omega
          have i2 : 2 * (k : Int) + 1 < 64 := by omega
          have i3 : (0 : Int) ≤ 2 * (k : Int) := by omega
          have i4 : (0 : Int) ≤ 2 * (k : Int) + 1 := by omega
          have j1 : (2 * (k : Int)).toNat < s.size := by omega
          have j2 : (2 * (k : Int) + 1).toNat < s.size := by omega
          have j3 : 2 * k < s.size := by omega
          have j4 : 2 * k + 1 < s.size := by omega
          have u1 : IntKind.i64.wrap (2 * (k : Int)) = 2 * (k : Int) := wrap64 (by omega) (by omega)
          have u2 : IntKind.i64.wrap (2 * (k : Int) + 1) = 2 * (k : Int) + 1 := wrap64 (by omega) (by omega)
          have i5 : 2 * (k : Int) < (s.size : Int) := by omega
          have i6 : 2 * (k : Int) + 1 < (s.size : Int) := by omega
          have u3' : IntKind.i64.wrap (d1 * 16) = d1 * 16 := wrap64 (by omega) (by omega)
          have u4' : IntKind.u8.wrap (d1 * 16 + d2) = d1 * 16 + d2 := by rw [IntKind.wrap_u8']; omega
          have c0 : 0 ≤ d1 * 16 + d2 := by omega
          have c1 : d1 * 16 + d2 < 256 := by omega
          go_wp2_with fail
          go_region_held3 (fun _ => True) (trivial) ((go_at_call 10; first | (refine (hv1 _ _ _ ?hx).mono ?_; (case hx => omega); rintro e w' ⟨rfl, rfl⟩) | (refine (hv2 _ _ _ ?hx).mono ?_; (case hx => omega); rintro e w' ⟨rfl, rfl⟩)))
          all_goals
            have HR1 : Hid ((wr.setCell ⟨w.heap.size + 1, k, none⟩ (.int .u8 (d1 * 16 + d2))).drew.rowIs (w.heap.size + 1) 22 32 (halfRow s (k + 1))) := by
              refine ((HR.out.set k _).drew).congr fun i hi => ?_
              unfold halfRow
              by_cases e : i = k
              · subst e
                rw [if_pos rfl, if_pos (by omega), HHB.out]
              · rw [if_neg e]
                by_cases e2 : i < k
                · rw [if_pos e2, if_pos (by omega)]
                · rw [if_neg e2, if_neg (by omega)]
            have HG1 : Hid ((wr.setCell ⟨w.heap.size + 1, k, none⟩ (.int .u8 (d1 * 16 + d2))).drew.heap[w.heap.size]? = some (.cells zcells 22 (0, 0))) := (Go.Deep.blk_setCell_other _ _ _ _ (by simp)).trans HG.out
            have HB1 : Hid (Below w.heap.size w (wr.setCell ⟨w.heap.size + 1, k, none⟩ (.int .u8 (d1 * 16 + d2))).drew) := (HB.out.setCell (by simp) _).drew
            generalize (wr.setCell ⟨w.heap.size + 1, k, none⟩ (.int .u8 (d1 * 16 + d2))).drew = w1 at HR1 HG1 HB1 ⊢
            clear hv1 hv2 hor
            go_wp2
            go_roundw
            case rel => exact ⟨k + 1, by omega, by go_num, HR1.out, HG1.out, HB1.out⟩
            case measure => simp [intOf]; omega
        · obtain rfl : k = 32 := by omega
          obtain ⟨c, hc, hcs, hcv⟩ := HR.out
          obtain rfl : c = hcells s := half_cells s c hcs hcv
          have hr3 := HG.out
          clear hcv hcs
          go_wp2_with (first | (refine wpList_load_row rfl 22 _ rfl _ rfl 22 (hcells s) (0, 0) _ hc Ybad.underlying22 rfl (by rw [hcells_size]; exact info22) ?_) | (refine wpList_store_row rfl 22 _ _ rfl _ (hcells s) rfl rfl 22 zcells hr3 (by rw [hcells_size]; exact info22) (by rw [hcells_size]; rfl) (hcells_one s) ?_) | fail)
          exact ret_pair7 (setRow_heap_same wr w.heap.size (hcells s) _ 22 HG.out) (hcells_size s) rfl rfl ⟨by rw [hv, hok], below_setRow HB.out (Nat.le_refl _) _⟩

/-- zzs0433cmodel at every string. -/
theorem model_any (s : ByteArray) (w : World) (hs : s.size ≤ maxLen) :
    Calls Ybad.prog 7 #[.string s] w fun e w' => e = .returned (.tuple #[.agg (hval s), .bool (okH s)]) ∧ Below w.heap.size w w' := by
  by_cases h : s.size = 64
  · exact model_64 s w h
  · have hok : okH s = false := by
      cases hq : okH s
      · rfl
      · exact absurd ((okH_iff s).1 hq).1 h
    rw [hval_bad hok, hok]
    exact model_short s w hs (by simp; omega)

theorem hval_size (s : ByteArray) : (hval s).size = 32 := by
  unfold hval
  split
  · exact hcells_size s
  · rfl
theorem hval_cell (s : ByteArray) : ∀ j, j < 32 → ∃ a, (hval s)[j]? = some (.int .u8 a) := by
  intro j hj
  unfold hval
  split
  · exact ⟨_, hcells_at s j hj⟩
  · exact ⟨0, by rw [zcells_rep]; simp [hj]⟩
theorem hval_one (s : ByteArray) : (hval s).all (·.oneCell') = true := by
  unfold hval
  split
  · exact hcells_one s
  · exact zcells_one

set_option maxHeartbeats 2000000 in
set_option maxRecDepth 100000 in
theorem law_any (s : ByteArray) (ev : Value) (w : World) (hs : s.size ≤ maxLen) (hE : w.cell? ⟨0, 0, none⟩ = some ev) :
    Calls Ybad.prog 4 #[.string s] w fun e w' => e = .returned (.bool true) ∧ Below w.heap.size w w' := by
  have heq := eq_same (hval s) (hval_cell s)
  have hsz := hval_size s
  have HONE : Hid ((hval s).all (·.oneCell') = true) := hval_one s
  have HM : Hid (∀ w : World, Calls Ybad.prog 7 #[.string s] w fun e w' => e = .returned (.tuple #[.agg (hval s), .bool (okH s)]) ∧ Below w.heap.size w w') := fun w => model_any s w hs
  have HZ : Hid (okH s = false → hval s = zcells) := hval_bad
  go_enter Ybad.func4, Ybad.ntmps4
  go_wp2_with fail
  refine (parse_any s ev _ hs hE).mono ?_
  rintro e w1 ⟨rfl, hb1⟩
  have HB1 : Hid (Below w.heap.size w w1) := hb1
  clear hb1
  generalize hC : hval s = C at heq hsz HONE HM HZ ⊢
  go_wp2_with (first | (refine wpList_store_row rfl 22 _ _ rfl _ C rfl rfl 22 zcells (heap_alloc_new w1 _) (by rw [hsz]; exact info22) (by rw [hsz]; rfl) HONE.out ?_; rw [World.setRow_alloc_new]) | fail)
  refine (HM.out _).mono ?_
  rintro e w2 ⟨rfl, hb2⟩
  have hg1 : (w2.alloc (.cells C 22)).heap[w1.heap.size]? = some (.cells C 22 (0, 0)) := by
    rw [Below.heap_alloc _ _ _ (by have := hb2.size; simp at this; omega), hb2.block _ (by simp)]
    exact heap_alloc_new w1 _
  have HB2 : Hid (Below w.heap.size w w2) := (HB1.out.alloc HB1.out.size _).trans (hb2.mono (by simp; have := HB1.out.size; omega))
  clear hb2
  cases hok : okH s
  · have heqz : ∀ w : World, (Op.equalIn 10000 22 (.agg C) (.agg zcells)).run Ybad.prog w = .ok true w := fun w => by
      have := heq w
      rw [HZ.out hok] at this ⊢
      exact this
    unfold zcells at heqz
    go_wp2_with (first | (refine wpList_store_row rfl 22 _ _ rfl _ C rfl rfl 22 zcells (heap_alloc_new w2 _) (by rw [hsz]; exact info22) (by rw [hsz]; rfl) HONE.out ?_; rw [World.setRow_alloc_new]) | (refine wpList_load_row rfl 22 _ rfl _ rfl 22 C (0, 0) _ hg1 Ybad.underlying22 rfl (by rw [hsz]; exact info22) ?_) | fail)
    go_ret
    exact ⟨rfl, HB2.out.alloc HB2.out.size _⟩
  · go_wp2_with (first | (refine wpList_store_row rfl 22 _ _ rfl _ C rfl rfl 22 zcells (heap_alloc_new w2 _) (by rw [hsz]; exact info22) (by rw [hsz]; rfl) HONE.out ?_; rw [World.setRow_alloc_new]) | (refine wpList_load_row rfl 22 _ rfl _ rfl 22 C (0, 0) _ hg1 Ybad.underlying22 rfl (by rw [hsz]; exact info22) ?_) | (refine wpList_load_row rfl 22 _ rfl _ rfl 22 C (0, 0) _ (heap_alloc_new w2 _) Ybad.underlying22 rfl (by rw [hsz]; exact info22) ?_) | fail)
    go_ret
    exact ⟨rfl, HB2.out.alloc HB2.out.size _⟩
end Go.Proofs.YbulkhyeDoor
