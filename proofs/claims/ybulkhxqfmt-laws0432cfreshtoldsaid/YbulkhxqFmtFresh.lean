/- THE WALK OF LawS0432CFresh. -/
import Derived.Test.YbulkhxqFmtExist
import Derived.Deep.QuietTactic
import Derived.BigQuiet
namespace Go.Proofs.YbulkhxqFmt
open Go.Extern.Stop Go.Stop Go.Extern Go.Kit Go.RowKit Go.WideMaps Go.Maps

theorem extract_pre (p r : ByteArray) : (p ++ r).extract 0 p.size = p := by
  apply ByteArray.ext
  rw [ByteArray.data_extract, ByteArray.data_append]
  show (p.data ++ r.data).extract 0 p.data.size = p.data
  rw [Array.extract_append]
  simp

set_option maxHeartbeats 400000 in
theorem liteHasPrefix_yes (p r : ByteArray) (w : World) (_hp : p.size ≤ 5000) (_hr : r.size ≤ 5000) : Calls Ybaf.prog 11 #[.string (p ++ r), .string p] w fun e w' => e = .returned (.bool true) ∧ w' = w := by
  have hsz : (p ++ r).size = p.size + r.size := ByteArray.size_append
  have hex := extract_pre p r
  go_enter Ybaf.func11, Ybaf.ntmps11
  go_wp2
  go_ret
  exact ⟨rfl, rfl⟩

set_option maxHeartbeats 400000 in
theorem hasPrefix_yes (p r : ByteArray) (w : World) (hp : p.size ≤ 5000) (hr : r.size ≤ 5000) : Calls Ybaf.prog 7 #[.string (p ++ r), .string p] w fun e w' => e = .returned (.bool true) ∧ w' = w := by
  go_enter Ybaf.func7, Ybaf.ntmps7
  go_wp2_with (go_at_call 11; refine (liteHasPrefix_yes p r _ hp hr).mono ?_; rintro e w' ⟨rfl, rfl⟩)
  go_ret
  exact ⟨rfl, rfl⟩

theorem ckey_split (sub key : ByteArray) (h1 : sub.size ≤ 1024) (h2 : key.size ≤ 1024) : ∃ r : ByteArray, ckey sub key = (sub ++ ⟨#[46]⟩) ++ r ∧ r.size ≤ 5000 ∧ (sub ++ ⟨#[46]⟩ : ByteArray).size ≤ 5000 := by
  have h3 := esc_len key.data.toList
  have h4 : key.data.toList.length = key.size := by rw [Array.length_toList]; rfl
  have h5 : (⟨(esc key.data.toList).toArray⟩ : ByteArray).size = (esc key.data.toList).length := by show (esc key.data.toList).toArray.size = _; simp
  have h6 : (⟨#[46]⟩ : ByteArray).size = 1 := rfl
  exact ⟨⟨(esc key.data.toList).toArray⟩, rfl, by rw [h5]; omega, by rw [ByteArray.size_append, h6]; omega⟩

theorem prefix_ckey (sub key : ByteArray) (w : World) (h1 : sub.size ≤ 1024) (h2 : key.size ≤ 1024) : Calls Ybaf.prog 7 #[.string (ckey sub key), .string (sub ++ ⟨#[46]⟩)] w fun e w' => e = .returned (.bool true) ∧ w' = w := by
  obtain ⟨r, e, hr, hp⟩ := ckey_split sub key h1 h2
  rw [e]
  exact hasPrefix_yes _ _ w hp hr

theorem info78s : (Ybaf.prog.info? 78).isSome = true := by kernel_rfl
theorem neq64 (a : Option Addr) (w : World) : (binOp .neq 64 (.pointer a) (.pointer a)).run Ybaf.prog w = .ok (.bool false) w := by
  cases a with
  | none => kernel_rfl
  | some a =>
    obtain ⟨j, hj⟩ := Option.isSome_iff_exists.1 info78s
    exact Lib.run_neq_ptr_same w a Ybaf.underlying64 hj

theorem Grp.drewN {N m : Nat} {nm : List ByteArray} {D : DataW Unit} {w : World} (h : Grp N nm m D w) (n : Nat) : Grp N nm m D (w.drewN n) := ⟨h.lt, h.subs, h.grp, h.map⟩

set_option maxHeartbeats 400000 in
theorem isZero_yes (w : World) : Calls Ybaf.prog 8 #[.agg #[.int .u64 0, .int .i64 0, .pointer none]] w fun e w' => e = .returned (.bool true) ∧ w' = w.alloc (.cells #[.int .u64 0, .int .i64 0, .pointer none] 68) := by
  go_enter Ybaf.func8, Ybaf.ntmps8
  go_wp2
  go_ret
  exact ⟨rfl, rfl⟩

set_option maxHeartbeats 2000000 in
set_option maxRecDepth 100000 in
theorem fresh_any (F : Interp) (sub key : ByteArray) (a0 : Option Addr) (xb xo cap : Nat) (nm : List ByteArray) (x : Int) (w : World) (hF : F.told.answers w.tape) (hn : nm.length ≤ 1024) (hs : sub.size ≤ 1024) (hk : key.size ≤ 1024) (hx0 : 0 ≤ x) (hx1 : x < 256)
    (hxa : 0 < nm.length → a0 = some ⟨xb, xo, none⟩) (hc : ∀ j, j < nm.length → w.cell? ⟨xb, xo + j, none⟩ = some (.string (nm.getD j ByteArray.empty))) :
    Calls Ybaf.prog 3 #[.string sub, .string key, .slice a0 nm.length cap, .int .u8 x] w fun e w' => e = .returned (.bool true) ∧ Below w.heap.size w w' := by
  have HXA : Hid (0 < nm.length → a0 = some ⟨xb, xo, none⟩) := hxa
  have HC : Hid (∀ j, j < nm.length → w.cell? ⟨xb, xo + j, none⟩ = some (.string (nm.getD j ByteArray.empty))) := hc
  clear hxa hc
  have hcs := ckey_size sub key hs hk
  go_enter Ybaf.func3, Ybaf.ntmps3
  go_wp2_with fail
  refine (group_any a0 xb xo cap nm x _ hn hx0 hx1 HXA.out HC.out).mono ?_
  rintro e w1 ⟨rfl, hb1, k, D, hk3, hfil, hG⟩
  have HB1 : Hid (Below w.heap.size w w1) := hb1
  have HFIL : Hid (Fil k D) := hfil
  have HG1 : Hid (Grp w.heap.size nm k D w1) := hG
  have g21 := hG.c21
  have hlen1 : ∀ ty, (Builtin.len_ #[46] ty #[.map (some (w.heap.size + 1))]).run Ybaf.prog w1 = .ok (.int .i64 (k : Int)) w1 := fun ty => by
    have := hG.map.len Ybaf.underlying46 ty
    rw [hfil.1] at this
    exact this
  clear hb1 hfil hG HC HXA
  go_wp2_with fail
  refine (entryOf_new F w.heap.size k nm D sub key _ (by rw [HB1.out.tape]; exact hF) hn (by omega) hs hk HG1.out (HFIL.out.2 _ (Or.inl (ckey_dot sub key)))).mono ?_
  rintro e w2 ⟨eb, p, rfl, heb, hlt2, hsub, hE2, hG2, hB2⟩
  have HSUB : Hid (IsSub w.heap.size nm sub (.pointer p)) := hsub
  have HB2 : Hid (Below w.heap.size w1 w2) := hB2
  have hsz2 : Maps.size (D.put (.string (ckey sub key).data.toList) (.lit (.int .i64 (eb : Int)))) = k + 1 := by
    rw [size_put (HG1.out.map.tidy law9), HFIL.out.2 _ (Or.inl (ckey_dot sub key)), HFIL.out.1]; rfl
  have hat2 : ∀ z, (D.put (.string (ckey sub key).data.toList) (.lit (.int .i64 (eb : Int)))).atKey (.string (ckey sub key).data.toList) z = .lit (.int .i64 (eb : Int)) := fun z => atKey_put_same HG1.out.map.isMap (law9.key (keyOf_string_mk Ybaf.underlying9 (by unfold maxLen; omega))) _ z
  generalize D.put (.string (ckey sub key).data.toList) (.lit (.int .i64 (eb : Int))) = D2 at hG2 hsz2 hat2
  have g212 := hG2.c21
  have hlen2 : ∀ ty, (Builtin.len_ #[46] ty #[.map (some (w.heap.size + 1))]).run Ybaf.prog w2 = .ok (.int .i64 ((k + 1 : Nat) : Int)) w2 := fun ty => by rw [← hsz2]; exact hG2.map.len Ybaf.underlying46 ty
  have hrun2 : ∀ n, (Instr.lookup 46 (.map (some (w.heap.size + 1))) (.string (ckey sub key)) false).run Ybaf.prog (w2.drewN n) = .ok (.pointer (some ⟨eb, 0, none⟩)) (w2.drewN n) := fun n => by
    have hm : (w2.drewN n).ownsMap Ybaf.prog 9 ptrElem (w.heap.size + 1) (k + 1) D2 := hG2.map
    obtain ⟨v, ps, hrun, hv⟩ := hm.lookup law9 Ybaf.underlying46 (zero62 _) ptrElem_nil (keyOf_string_mk Ybaf.underlying9 (s := ckey sub key) (by unfold maxLen; omega))
    rw [hat2] at hv
    obtain rfl := ptrElem_inv hv
    exact hrun
  have HG2 : Hid (Grp w.heap.size nm (k + 1) D2 w2) := hG2
  have HAT : Hid (∀ z, D2.atKey (.string (ckey sub key).data.toList) z = .lit (.int .i64 (eb : Int))) := hat2
  have HSZ : Hid (Maps.size D2 = k + 1) := hsz2
  have HE2 : Hid (w2.heap[eb]? = some (.cells (entCells (ckey sub key) p sub key) 73 (0, 0))) := hE2
  have hcl : ∀ j, w2.cell? ⟨eb, j, none⟩ = (entCells (ckey sub key) p sub key)[j]? := fun j => Lib.cell_of_heap hE2 j
  unfold entCells at hcl
  have hne := neq62
  clear hsub hB2 hG2 hsz2 hat2 hE2 g21 hlen1
  go_wp2_with fail
  go_quiet (fail)
  have hG3 := HG2.out.drewN nq
  have hE3 : (w2.drewN nq).heap[eb]? = some (.cells (entCells (ckey sub key) p sub key) 73 (0, 0)) := HE2.out
  have hB3 : Below w.heap.size w1 (w2.drewN nq) := ⟨HB2.out.os, HB2.out.tape, HB2.out.output, HB2.out.size, HB2.out.block⟩
  have hlt3 : eb < (w2.drewN nq).heap.size := hlt2
  clear hcl hrun2 hlen2 g212 HE2 HG2 HB2 hlt2
  generalize w2.drewN nq = w3 at hG3 hE3 hB3 hlt3 ⊢
  have hcl : ∀ j, w3.cell? ⟨eb, j, none⟩ = (entCells (ckey sub key) p sub key)[j]? := fun j => Lib.cell_of_heap hE3 j
  unfold entCells at hcl
  have HG2 : Hid (Grp w.heap.size nm (k + 1) D2 w3) := hG3
  have HB2 : Hid (Below w.heap.size w1 w3) := hB3
  have hlt4 := hG3.lt
  clear hG3 hE3 hB3
  go_wp2_with fail
  refine (prefix_ckey sub key _ hs hk).mono ?_
  rintro e w4 ⟨rfl, rfl⟩
  have hne64 := neq64
  go_wp2_with fail
  go_loop [13, 14, 76] (fun v _ i => ∃ j : Nat, j ≤ nm.length ∧ i = .int .i64 j ∧ v = .pointer none ∧ Hid (∀ l, l < j → nm.getD l ByteArray.empty ≠ sub)) (fun _ _ i => nm.length - (intOf i).toNat)
  case atStart => exact ⟨0, Nat.zero_le _, rfl, rfl, fun l hl => by omega⟩
  case round =>
    obtain ⟨j, hj, rfl, rfl, HP⟩ := hrel
    by_cases hlt : j < nm.length
    · have g1 := HG2.out.sub j hlt
      have e1 : nm.getD j ByteArray.empty = nm[j] := by simp [hlt]
      cases hq : (nm[j].toList == sub.toList)
      · have hno : ∀ l, l < j + 1 → nm.getD l ByteArray.empty ≠ sub := fun l hl => by
          by_cases e : l = j
          · subst e; rw [e1]; exact str_ne hq
          · exact HP.out l (by omega)
        have HNO : Hid (∀ l, l < j + 1 → nm.getD l ByteArray.empty ≠ sub) := hno
        clear hno e1
        go_wp2_with fail
        go_round
        case rel => exact ⟨j + 1, by omega, by go_num, rfl, HNO.out⟩
        case measure => simp [intOf]; omega
      · have hps : Value.pointer p = .pointer (some ⟨w.heap.size, j * 3, none⟩) := HSUB.out.unique (Or.inr ⟨j, hlt, rfl, by rw [e1]; exact str_eq hq, HP.out⟩)
        injection hps with hps
        subst hps
        clear e1
        go_wp2_with (first | (go_at_call 8; refine (isZero_yes _).mono ?_; rintro e w' ⟨rfl, rfl⟩) | fail)
        refine (entryOf_there F w.heap.size (k + 1) nm D2 sub key eb _ (by show F.told.answers w4.tape; rw [HB2.out.tape, HB1.out.tape]; exact hF) hs hk ((HG2.out.alloc _).alloc _) HAT.out).mono ?_
        rintro e w5 ⟨rfl, hb5⟩
        have hG5 := ((HG2.out.alloc _).alloc _).below hb5 ((HG2.out.alloc _).alloc _).lt
        have g215 := hG5.c21
        have hlen5 : ∀ ty, (Builtin.len_ #[46] ty #[.map (some (w.heap.size + 1))]).run Ybaf.prog w5 = .ok (.int .i64 ((k + 1 : Nat) : Int)) w5 := fun ty => by rw [← HSZ.out]; exact hG5.map.len Ybaf.underlying46 ty
        have hB5 : Below w.heap.size w4 w5 := (((Below.refl _ w4).alloc (by omega) _).alloc (by simp; omega) _).trans (hb5.mono (by simp; omega))
        have HB5 : Hid (Below w.heap.size w4 w5) := hB5
        clear hG5 hb5 hB5 hcl
        go_wp2
        go_ret
        exact ⟨rfl, (HB1.out.trans HB2.out).trans HB5.out⟩
    · obtain rfl : j = nm.length := by omega
      have hps : Value.pointer p = .pointer none := HSUB.out.unique (Or.inl ⟨rfl, HP.out⟩)
      injection hps with hps
      subst hps
      go_wp2_with (first | (go_at_call 8; refine (isZero_yes _).mono ?_; rintro e w' ⟨rfl, rfl⟩) | fail)
      refine (entryOf_there F w.heap.size (k + 1) nm D2 sub key eb _ (by show F.told.answers w4.tape; rw [HB2.out.tape, HB1.out.tape]; exact hF) hs hk ((HG2.out.alloc _).alloc _) HAT.out).mono ?_
      rintro e w5 ⟨rfl, hb5⟩
      have hG5 := ((HG2.out.alloc _).alloc _).below hb5 ((HG2.out.alloc _).alloc _).lt
      have g215 := hG5.c21
      have hlen5 : ∀ ty, (Builtin.len_ #[46] ty #[.map (some (w.heap.size + 1))]).run Ybaf.prog w5 = .ok (.int .i64 ((k + 1 : Nat) : Int)) w5 := fun ty => by rw [← HSZ.out]; exact hG5.map.len Ybaf.underlying46 ty
      have hB5 : Below w.heap.size w4 w5 := (((Below.refl _ w4).alloc (by omega) _).alloc (by simp; omega) _).trans (hb5.mono (by simp; omega))
      have HB5 : Hid (Below w.heap.size w4 w5) := hB5
      clear hG5 hb5 hB5 hcl
      go_wp2
      go_ret
      exact ⟨rfl, (HB1.out.trans HB2.out).trans HB5.out⟩
end Go.Proofs.YbulkhxqFmt
