/- store.zzs0433bjunk and store.parseSegmentName. -/
import Derived.Test.YbulkhyeFmtSeg
import Derived.Test.YbulkhyeFmtShelf
import Derived.Lib.SmallJoins
import Derived.Lib.LaidTab
namespace Go.Proofs.YbulkhyeFmt
open Go.Extern.Stop Go.Stop Go.Extern Go.Kit Go.RowKit

/-- the table that FormatInt reads -/
def tabName : String := Rows.lawS0433BExactRow.named.headD ""

theorem var_below {w w' : World} {n : String} {cs : Array Value} (h : w.var? Ybaf.prog n = some cs) (hb : Below w.heap.size w w') : w'.var? Ybaf.prog n = some cs := by
  unfold World.var? at h ⊢
  cases hg : Ybaf.prog.globalNamed n with
  | none => simp [hg] at h
  | some g =>
    simp only [hg, Option.bind_some] at h ⊢
    have hlt : g < w.heap.size := by
      rcases Nat.lt_or_ge g w.heap.size with h' | h'
      · exact h'
      · simp [Array.getElem?_eq_none h'] at h
    rw [hb.block g hlt]
    exact h

/-- WHAT THE WALK WANTS OF THE LISTED VARIABLES, AND OF fmt. -/
structure Vars (F : Interp) (w : World) : Prop where
  tab : Lib.TabIs Ybaf.prog w tabName .u64 Lib.pow10Tab
  err : ∃ tp p, w.var? Ybaf.prog "strconv.ErrSyntax" = some #[.iface tp p]
  told : F.told.answers w.tape
theorem Vars.below {F : Interp} {w w' : World} (h : Vars F w) (hb : Below w.heap.size w w') : Vars F w' :=
  ⟨var_below h.tab hb, h.err.elim fun tp hp => hp.elim fun p hv => ⟨tp, p, var_below hv hb⟩, by rw [hb.tape]; exact h.told⟩
/-- below is below -/
theorem Vars.below' {F : Interp} {B : Nat} {w w' : World} (h : Vars F w) (hB : w.heap.size ≤ B) (hb : Below B w w') : Vars F w' := h.below (hb.mono hB)

theorem below_grow (w : World) (n : Nat) (os : Array Obj) : Below w.heap.size w (Go.Sort.grow (w.drewN n) os) :=
  ⟨rfl, rfl, rfl, by simp [Go.Sort.grow], fun k hk => by
    simp only [Go.Sort.grow, World.heap_drewN]
    rw [Array.getElem?_append_left hk]⟩

/-! ### the junk -/
def junkL (j : Nat) : List UInt8 := if j % 3 = 0 then sign20 j else if j % 3 = 1 then Lib.itoa j ++ suf else 120 :: (sign20 j ++ suf)
def junkOf (j : Nat) : ByteArray := ⟨(junkL j).toArray⟩
theorem junk_add (l : List UInt8) : (⟨(l ++ suf).toArray⟩ : ByteArray) = ⟨l.toArray⟩ ++ ⟨#[46, 110, 100, 106, 115, 111, 110]⟩ := by
  unfold suf
  apply ByteArray.ext
  simp [ByteArray.data_append]
theorem x_add (j : Nat) : (⟨(120 :: (sign20 j ++ suf)).toArray⟩ : ByteArray) = ⟨#[120]⟩ ++ nameOf j := by
  unfold nameOf
  apply ByteArray.ext
  simp [ByteArray.data_append]
theorem name_cut {p : Int} (h : (sign20 p).length = 20) : (nameOf p).extract 0 20 = ⟨(sign20 p).toArray⟩ := by
  unfold nameOf
  apply ByteArray.ext
  rw [ByteArray.data_extract]
  apply Array.toList_inj.1
  rw [Array.toList_extract]
  simp [List.extract, h]
theorem itoa_len {j : Nat} (h : j < 65536) : (Lib.itoa (j : Int)).length ≤ 5 ∧ 0 < (Lib.itoa (j : Int)).length := by
  rw [Lib.itoa_nonneg, Lib.decDigits_length]
  exact ⟨nDigits_le (by decide) (by omega), Lib.nDigits_pos j⟩

set_option maxHeartbeats 1000000 in
set_option maxRecDepth 100000 in
theorem junk_any (F : Interp) (j : Nat) (hj : j < 65536) (w : World) (hV : Vars F w) :
    Calls Ybaf.prog 6 #[.int .u16 (j : Int)] w fun e w' => e = .returned (.string (junkOf j)) ∧ Below w.heap.size w w' := by
  have j0 : (0 : Int) ≤ (j : Int) := by omega
  have j1 : (j : Int) < 65536 := by omega
  have hsz := nameOf_size (p := (j : Int)) (by omega) (by omega)
  by_cases h0 : j % 3 = 0
  · have hm : (j : Int) % 3 = 0 := by omega
    have HJ : Hid (junkOf j = ⟨(sign20 j).toArray⟩) := by show junkOf j = _; unfold junkOf junkL; rw [if_pos h0]
    have HL : Hid ((sign20 (j : Int)).length = 20) := sign20_length (by omega) (by omega)
    clear h0
    go_enter Ybaf.func6, Ybaf.ntmps6
    go_wp2_with fail
    refine (name_any (j : Int) (by omega) (by omega) _).mono ?_
    rintro e w1 ⟨rfl, hb⟩
    have HX : Hid ((nameOf j).extract 0 20 = ⟨(sign20 j).toArray⟩) := name_cut HL.out
    go_wp2
    go_ret
    exact ⟨by rw [HJ.out, ← HX.out]; rfl, hb⟩
  · by_cases h1 : j % 3 = 1
    · have hm : (j : Int) % 3 = 1 := by omega
      have HJ : Hid (junkOf j = ⟨(Lib.itoa j).toArray⟩ ++ ⟨#[46, 110, 100, 106, 115, 111, 110]⟩) := by show junkOf j = _; unfold junkOf junkL; rw [if_neg h0, if_pos h1]; exact junk_add _
      have hS : (⟨(Lib.itoa j).toArray⟩ : ByteArray).size ≤ 5 := by show (Lib.itoa j).toArray.size ≤ 5; rw [List.size_toArray]; exact (itoa_len hj).1
      clear h0 h1
      go_enter Ybaf.func6, Ybaf.ntmps6
      go_wp2_with fail
      refine (Any.strconv_FormatInt_10 Ybaf.laysM173 (j : Int) (by omega) (by omega) _ hV.tab).mono ?_
      rintro e w1 ⟨rfl, k, os, hw⟩
      have hb : Below w.heap.size w w1 := by rw [hw]; exact below_grow w k os
      clear hw
      generalize (⟨(Lib.itoa j).toArray⟩ : ByteArray) = S at hS HJ ⊢
      go_wp2
      go_ret
      exact ⟨by rw [HJ.out]; rfl, hb⟩
    · have hm : (j : Int) % 3 = 2 := by omega
      have HJ : Hid (junkOf j = ⟨#[120]⟩ ++ nameOf j) := by show junkOf j = _; unfold junkOf junkL; rw [if_neg h0, if_neg h1]; exact x_add j
      clear h0 h1
      go_enter Ybaf.func6, Ybaf.ntmps6
      go_wp2_with fail
      refine (name_any (j : Int) (by omega) (by omega) _).mono ?_
      rintro e w1 ⟨rfl, hb⟩
      go_wp2
      go_ret
      exact ⟨by rw [HJ.out]; rfl, hb⟩

/-! ### strings -/
theorem suf_eq : (⟨#[46, 110, 100, 106, 115, 111, 110]⟩ : ByteArray).data.toList = suf := rfl
theorem hasSuf (l : List UInt8) : Lib.hasSuffix (l ++ suf) suf = true := by
  unfold Lib.hasSuffix
  rw [List.isSuffixOf_iff_suffix]
  exact List.suffix_append l suf
theorem trimSuf (l : List UInt8) : Lib.trimSuffix (l ++ suf) suf = l := by
  unfold Lib.trimSuffix
  rw [if_pos (hasSuf l)]
  simp
theorem noSuf (l : List UInt8) (c : UInt8) (h : c.toNat ≤ 57) : Lib.hasSuffix (l ++ [c]) suf = false := by
  cases hq : Lib.hasSuffix (l ++ [c]) suf with
  | false => rfl
  | true =>
    exfalso
    unfold Lib.hasSuffix at hq
    rw [List.isSuffixOf_iff_suffix] at hq
    obtain ⟨t, ht⟩ := hq
    have := congrArg List.getLast? ht
    simp [suf] at this
    subst this
    revert h
    decide
theorem noSuf20 {j : Nat} (h : j < 65536) : Lib.hasSuffix (sign20 (j : Int)) suf = false := by
  rw [sign20_pos (by omega) (by omega), dgs_snoc]
  refine noSuf _ _ ?_
  rw [dg_val]
  omega
theorem trimNo {l : List UInt8} (h : Lib.hasSuffix l suf = false) : Lib.trimSuffix l suf = l := by
  unfold Lib.trimSuffix
  rw [h]; rfl
theorem size_mk (l : List UInt8) : (⟨l.toArray⟩ : ByteArray).size = l.length := by
  show l.toArray.size = _
  rw [List.size_toArray]
theorem cut_yes (l : List UInt8) (hl : l.length ≤ 1024) (w : World) : Calls Ybaf.prog 26 #[.string ⟨(l ++ suf).toArray⟩, .string ⟨#[46, 110, 100, 106, 115, 111, 110]⟩] w fun e w' => e = .returned (.tuple #[.string ⟨l.toArray⟩, .bool true]) ∧ w' = w := by
  have hsz : (⟨(l ++ suf).toArray⟩ : ByteArray).size ≤ 9223372036854775807 := by
    rw [size_mk, List.length_append]
    have : suf.length = 7 := rfl
    omega
  refine (Ybaf.strings_CutSuffix ⟨(l ++ suf).toArray⟩ ⟨#[46, 110, 100, 106, 115, 111, 110]⟩ w hsz).mono ?_
  rintro e w' ⟨rfl, rfl⟩
  refine ⟨?_, rfl⟩
  have e1 : (⟨(l ++ suf).toArray⟩ : ByteArray).data.toList = l ++ suf := rfl
  rw [suf_eq, e1, trimSuf, hasSuf]
theorem cut_no (l : List UInt8) (hl : l.length ≤ 1024) (h : Lib.hasSuffix l suf = false) (w : World) : Calls Ybaf.prog 26 #[.string ⟨l.toArray⟩, .string ⟨#[46, 110, 100, 106, 115, 111, 110]⟩] w fun e w' => e = .returned (.tuple #[.string ⟨l.toArray⟩, .bool false]) ∧ w' = w := by
  have hsz : (⟨l.toArray⟩ : ByteArray).size ≤ 9223372036854775807 := by
    rw [size_mk]
    omega
  refine (Ybaf.strings_CutSuffix ⟨l.toArray⟩ ⟨#[46, 110, 100, 106, 115, 111, 110]⟩ w hsz).mono ?_
  rintro e w' ⟨rfl, rfl⟩
  refine ⟨?_, rfl⟩
  have e1 : (⟨l.toArray⟩ : ByteArray).data.toList = l := rfl
  rw [suf_eq, e1, trimNo h, h]
theorem int_ok (l : List UInt8) (v : Int) (hl : l.length ≤ 1024) (hp : Lib.parseIntB 64 l = .ok v) (w : World) : Calls Ybaf.prog 27 #[.string ⟨l.toArray⟩, .int .i64 10, .int .i64 64] w fun e w' => e = .returned (.tuple #[.int .i64 v, .nilIface]) ∧ Below w.heap.size w w' := by
  have hsz : (⟨l.toArray⟩ : ByteArray).size ≤ 9223372036854775806 := by
    rw [size_mk]
    omega
  refine (Ybaf.strconv_ParseInt_10_at64_ok ⟨l.toArray⟩ hsz v hp w).mono ?_
  rintro e w' ⟨rfl, rfl | ⟨t, rfl⟩⟩
  · exact ⟨rfl, Below.refl _ _⟩
  · exact ⟨rfl, Go.Joins.below_bytesWorld _ _ _ _ (Nat.le_refl _)⟩
theorem int_bad (l : List UInt8) (hl : l.length ≤ 1024) (hp : Lib.parseIntB 64 l = Lib.parseIntB 64 []) (tp : TypeId) (q : Value) (w : World) (hvar : w.var? Ybaf.prog "strconv.ErrSyntax" = some #[.iface tp q]) :
    Calls Ybaf.prog 27 #[.string ⟨l.toArray⟩, .int .i64 10, .int .i64 64] w fun e w' => ∃ N, e = .returned (.tuple #[.int .i64 0, .iface 86 (.pointer (some ⟨N, 0, none⟩))]) ∧ Below w.heap.size w w' := by
  have hsz : (⟨l.toArray⟩ : ByteArray).size ≤ 281474976710656 := by
    rw [size_mk]
    omega
  refine (Any.strconv_ParseInt_10_at64_syntax_var Ybaf.laysC174 ⟨l.toArray⟩ hsz hp tp q w hvar).mono ?_
  rintro e w' ⟨N, rfl, _, _, hb⟩
  exact ⟨N, rfl, hb⟩
theorem toList_beq_false {a b : ByteArray} (h : a.size ≠ b.size) : (a.toList == b.toList) = false := by
  rw [ByteArray.toList_eq, ByteArray.toList_eq, beq_eq_false_iff_ne]
  intro e
  apply h
  have := congrArg List.length e
  simpa using this

set_option maxHeartbeats 1000000 in
set_option maxRecDepth 100000 in
/-- parseSegmentName at a name that ends in the suffix, the rest spelling v. -/
theorem parse_suffixed (F : Interp) (l : List UInt8) (v : Int) (b : Bool) (h0 : -9223372036854775808 ≤ v) (h1 : v ≤ 9223372036854775807) (hl : l.length ≤ 1024) (hp : Lib.parseIntB 64 l = .ok v) (w : World) (hV : Vars F w)
    (hb : ((⟨(l ++ suf).toArray⟩ : ByteArray).toList == (nameOf v).toList) = b) :
    Calls Ybaf.prog 13 #[.string ⟨(l ++ suf).toArray⟩] w fun e w' => e = .returned (.tuple #[.int .i64 v, .bool b]) ∧ Below w.heap.size w w' := by
  have HC : Hid _ := cut_yes l hl
  have HI : Hid _ := int_ok l v hl hp
  generalize (⟨(l ++ suf).toArray⟩ : ByteArray) = S at hb HC ⊢
  generalize (⟨l.toArray⟩ : ByteArray) = T at HC HI
  go_enter Ybaf.func13, Ybaf.ntmps13
  go_wp2_with fail
  refine (HC.out _).mono ?_
  rintro e w1 ⟨rfl, rfl⟩
  go_wp2_with fail
  refine (HI.out _).mono ?_
  rintro e w2 ⟨rfl, hb2⟩
  have hV2 := hV.below hb2
  go_wp2_with fail
  refine (segmentName_any F v h0 h1 w2 hV2.told).mono ?_
  rintro e w3 ⟨rfl, hb3⟩
  have HB : Hid (Below w1.heap.size w1 w3) := hb2.trans (hb3.mono hb2.size)
  clear hb2 hb3 hV2
  go_wp2
  go_ret2
  exact ⟨rfl, HB.out⟩

/-- at a segment's name -/
theorem parse_name (F : Interp) (p : Int) (h0 : -9223372036854775808 ≤ p) (h1 : p ≤ 9223372036854775807) (w : World) (hV : Vars F w) :
    Calls Ybaf.prog 13 #[.string (nameOf p)] w fun e w' => e = .returned (.tuple #[.int .i64 p, .bool true]) ∧ Below w.heap.size w w' :=
  parse_suffixed F (sign20 p) p true h0 h1 (by rw [sign20_length h0 h1]; omega) (parse_sign20 h0 h1) w hV (beq_self_eq_true _)

set_option maxHeartbeats 1000000 in
set_option maxRecDepth 100000 in
theorem parse_unsuffixed (l : List UInt8) (v : Int) (hl : l.length ≤ 1024) (hp : Lib.parseIntB 64 l = .ok v) (hs : Lib.hasSuffix l suf = false) (w : World) :
    Calls Ybaf.prog 13 #[.string ⟨l.toArray⟩] w fun e w' => (∃ v, e = .returned (.tuple #[.int .i64 v, .bool false])) ∧ Below w.heap.size w w' := by
  have HC : Hid _ := cut_no l hl hs
  have HI : Hid _ := int_ok l v hl hp
  generalize (⟨l.toArray⟩ : ByteArray) = S at HC HI ⊢
  go_enter Ybaf.func13, Ybaf.ntmps13
  go_wp2_with fail
  refine (HC.out _).mono ?_
  rintro e w1 ⟨rfl, rfl⟩
  go_wp2_with fail
  refine (HI.out _).mono ?_
  rintro e w2 ⟨rfl, hb2⟩
  go_wp2
  go_ret2
  exact ⟨⟨_, rfl⟩, hb2⟩

set_option maxHeartbeats 1000000 in
set_option maxRecDepth 100000 in
theorem parse_x_name (F : Interp) (l : List UInt8) (hl : l.length ≤ 1024) (hp : Lib.parseIntB 64 l = Lib.parseIntB 64 []) (w : World) (hV : Vars F w) :
    Calls Ybaf.prog 13 #[.string ⟨(l ++ suf).toArray⟩] w fun e w' => (∃ v, e = .returned (.tuple #[.int .i64 v, .bool false])) ∧ Below w.heap.size w w' := by
  obtain ⟨tp, q, hq⟩ := hV.err
  have HC : Hid _ := cut_yes l hl
  have HI : Hid _ := int_bad l hl hp tp q w hq
  generalize (⟨(l ++ suf).toArray⟩ : ByteArray) = S at HC ⊢
  generalize (⟨l.toArray⟩ : ByteArray) = T at HC HI
  go_enter Ybaf.func13, Ybaf.ntmps13
  go_wp2_with fail
  refine (HC.out _).mono ?_
  rintro e w1 ⟨rfl, rfl⟩
  go_wp2_with fail
  refine (Calls.mono HI.out) ?_
  rintro e w2 ⟨N, rfl, hb2⟩
  go_wp2
  go_ret2
  exact ⟨⟨_, rfl⟩, hb2⟩

/-- at a name that is none -/
theorem parse_junk (F : Interp) (j : Nat) (hj : j < 65536) (w : World) (hV : Vars F w) :
    Calls Ybaf.prog 13 #[.string (junkOf j)] w fun e w' => (∃ v, e = .returned (.tuple #[.int .i64 v, .bool false])) ∧ Below w.heap.size w w' := by
  have hlen : (sign20 (j : Int)).length = 20 := sign20_length (by omega) (by omega)
  by_cases h0 : j % 3 = 0
  · have e : junkOf j = ⟨(sign20 j).toArray⟩ := by unfold junkOf junkL; rw [if_pos h0]
    rw [e]
    exact parse_unsuffixed _ j (by omega) (parse_sign20 (by omega) (by omega)) (noSuf20 hj) w
  · by_cases h1 : j % 3 = 1
    · have e : junkOf j = ⟨(Lib.itoa j ++ suf).toArray⟩ := by unfold junkOf junkL; rw [if_neg h0, if_pos h1]
      have hl := itoa_len hj
      rw [e]
      refine (parse_suffixed F (Lib.itoa j) j false (by omega) (by omega) (by omega) (parse_itoa hj) w hV ?_).mono fun e w' h => ⟨⟨_, h.1⟩, h.2⟩
      refine toList_beq_false ?_
      rw [nameOf_size (by omega) (by omega), size_mk, List.length_append]
      have : suf.length = 7 := rfl
      omega
    · have e : junkOf j = ⟨((120 :: sign20 j) ++ suf).toArray⟩ := by unfold junkOf junkL; rw [if_neg h0, if_neg h1]; rfl
      rw [e]
      exact parse_x_name F _ (by simp [hlen]) (parse_x _) w hV
end Go.Proofs.YbulkhyeFmt
