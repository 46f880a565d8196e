/- store.segmentStarts. -/
import Derived.Test.YbulkhyeFmtParse
import Derived.Sort.OwnSortedInts
import Derived.Laws.AppendOwn
import Derived.Laws.OwnMore
import Derived.OwnWalk
namespace Go.Proofs.YbulkhyeFmt
open Go.Extern.Stop Go.Stop Go.Extern Go.Kit Go.RowKit

/-- a name: of a segment, or none -/
def textOf : Int ⊕ Nat → ByteArray
  | .inl p => nameOf p
  | .inr j => junkOf j
def okI : Int ⊕ Nat → Prop
  | .inl p => -9223372036854775808 ≤ p ∧ p ≤ 9223372036854775807
  | .inr j => j < 65536
def posOf : Int ⊕ Nat → Option Int
  | .inl p => some p
  | .inr _ => none

theorem grown_below {w w' : World} (h : Below w.heap.size w w') (row : Option Nat) : w.grownBy w' row := ⟨h.os, h.tape, h.output, h.size, fun k hk _ => h.block k hk⟩
theorem owns_below {w w' : World} {base : Nat} {e : TypeId} {size : Nat} {v : Value} {n : Nat} {xs : List Value} (h : w.ownsRow base e size v n xs) (hb : Below w.heap.size w w') : w'.ownsRow base e size v n xs := by
  refine h.kept (grown_below hb none) ?_
  cases hq : v.ownBlock with
  | none => exact .inl rfl
  | some k => exact .inr (by simp)

theorem info2 : (Ybaf.prog.info? 2).map (fun i => (i.zero, i.size, i.bytes)) = some (some (.int .i64 0), 1, 8) := by kernel_rfl
theorem info9 : (Ybaf.prog.info? 9).map (fun i => (i.zero, i.size, i.bytes)) = some (some (.string ⟨#[]⟩), 1, 16) := by kernel_rfl

/-- ascending -/
def sorted (zs : List Int) : List Int := zs.mergeSort fun x y => decide (x ≤ y)
theorem sorted_length (zs : List Int) : (sorted zs).length = zs.length := List.length_mergeSort ..

theorem sort_owned (base : Nat) (v : Value) (zs : List Int) (w : World) (h : w.ownsRow base 2 1 v zs.length (zs.map (.int .i64))) (hz : zs.length ≤ 4096) :
    Calls Ybaf.prog 7 #[v] w fun e w' => e = .returned (.tuple #[]) ∧ w'.ownsRow base 2 1 v zs.length ((sorted zs).map (.int .i64)) ∧ w.grownBy w' v.ownBlock := by
  rcases h.2 with ⟨rfl, h0⟩ | ⟨g, cap, cur, rfl, hg, hb, h1, h2, h3, h4⟩
  · obtain rfl : zs = [] := List.eq_nil_of_length_eq_zero h0
    refine (Ybaf.slices_Sort_int_none none 0 w).mono ?_
    rintro e w' ⟨rfl, rfl⟩
    exact ⟨rfl, by simpa [sorted] using h, grown_below (Below.refl _ _) _⟩
  · have hlt : g < w.heap.size := by
      rcases Nat.lt_or_ge g w.heap.size with h' | h'
      · exact h'
      · simp [Array.getElem?_eq_none h'] at hb
    rw [Nat.mul_one] at h4
    refine (Ybaf.slices_Sort_int g 0 cap zs w (holds_of_blockI hb h4) hlt (by omega)).mono ?_
    rintro e w' ⟨rfl, n, os, rfl⟩
    exact ⟨rfl, ownsRow_sortedI (sorted_length zs) hg hb h1 h2 h3, grownBy_sortedI _⟩

/-- the positions among the first k names -/
def zsOf (its : List (Int ⊕ Nat)) (k : Nat) : List Int := (its.take k).filterMap posOf
theorem zsOf_succ (its : List (Int ⊕ Nat)) (k : Nat) (h : k < its.length) : zsOf its (k + 1) = zsOf its k ++ (posOf its[k]).toList := by
  unfold zsOf
  rw [List.take_succ_eq_append_getElem h, List.filterMap_append]
  cases hq : posOf its[k] <;> simp [hq]
theorem zsOf_length (its : List (Int ⊕ Nat)) (k : Nat) : (zsOf its k).length ≤ k := by
  unfold zsOf
  refine Nat.le_trans (List.length_filterMap_le _ _) ?_
  rw [List.length_take]; omega

set_option maxHeartbeats 2000000 in
set_option maxRecDepth 100000 in
theorem starts_any (F : Interp) (its : List (Int ⊕ Nat)) (na : Option Addr) (ncap : Nat) (w : World) (hV : Vars F w) (hlen : its.length ≤ 2048) (hok : ∀ it ∈ its, okI it)
    (hn : ∀ j, (hj : j < its.length) → ∃ g, na = some ⟨g, 0, none⟩ ∧ w.cell? ⟨g, j, none⟩ = some (.string (textOf its[j]))) :
    Calls Ybaf.prog 8 #[.slice na its.length ncap] w fun e w' => ∃ v, e = .returned v ∧ w'.ownsRow w.heap.size 2 1 v (its.filterMap posOf).length ((sorted (its.filterMap posOf)).map (.int .i64)) ∧ Below w.heap.size w w' := by
  obtain ⟨i0, hi, hz0, hz1, hz2⟩ := info_parts info2
  have HV : Hid (Vars F w) := hV
  have HN : Hid (∀ j, (hj : j < its.length) → ∃ g, na = some ⟨g, 0, none⟩ ∧ w.cell? ⟨g, j, none⟩ = some (.string (textOf its[j]))) := hn
  have HK : Hid (∀ it ∈ its, okI it) := hok
  clear hV hn hok
  go_enter Ybaf.func8, Ybaf.ntmps8
  go_wp2_with fail
  go_loopw [3, 10] (fun v i wr => ∃ k : Nat, k ≤ its.length ∧ i = .int .i64 k ∧ Hid (wr.ownsRow w.heap.size 2 1 v (zsOf its k).length ((zsOf its k).map (.int .i64))) ∧ Hid (Below w.heap.size w wr)) (fun _ i _ => its.length - (intOf i).toNat)
  case atStart => exact ⟨0, Nat.zero_le _, rfl, World.ownsRow_nil _ _ _ _, Below.refl _ _⟩
  case round =>
    obtain ⟨k, hk, rfl, HO, HB⟩ := hrel
    by_cases hlt : k < its.length
    · obtain ⟨g, rfl, hc0⟩ := HN.out k hlt
      have hcell : wr.cell? ⟨g, k, none⟩ = some (.string (textOf its[k])) := by
        rw [HB.out.cell (block_lt_of_cell hc0)]; exact hc0
      have k0 : (0 : Int) ≤ (k : Int) := by omega
      have k1 : (k : Int) < (its.length : Int) := by omega
      have hVr : Vars F wr := HV.out.below HB.out
      have hit := HK.out its[k] (List.getElem_mem hlt)
      have hzs := zsOf_succ its k hlt
      cases hq : its[k] with
      | inl p =>
        rw [hq] at hcell hit hzs
        have HP : Hid (Calls Ybaf.prog 13 #[.string (nameOf p)] wr fun e w' => e = .returned (.tuple #[.int .i64 p, .bool true]) ∧ Below wr.heap.size wr w') := parse_name F p hit.1 hit.2 wr hVr
        have HZ : Hid (zsOf its (k + 1) = zsOf its k ++ [p]) := hzs
        clear hzs hc0 hVr hq
        go_wp2_with fail
        refine (Calls.mono HP.out) ?_
        rintro e w2 ⟨rfl, hb2⟩
        have hown : (w2.alloc (.cells #[.int .i64 p] 2)).ownsRow w.heap.size 2 1 u3 (zsOf its k).length ((zsOf its k).map (.int .i64)) := (owns_below HO.out hb2).alloc _
        have hBw : Below w.heap.size w (w2.alloc (.cells #[.int .i64 p] 2)) := (HB.out.trans (hb2.mono HB.out.size)).alloc (Nat.le_trans HB.out.size hb2.size) _
        have hsz3 := hBw.size
        have hzl := zsOf_length its k
        have HBW : Hid (Below w.heap.size w (w2.alloc (.cells #[.int .i64 p] 2))) := hBw
        clear hBw hb2
        go_wp2_with (at_builtin; refine wpList_append_own _ rfl _ _ 22 rfl w.heap.size 2 i0 (.int .i64 0) 1 8 Ybaf.underlying22 hi hz0 hz1 hz2 rfl (by decide) _ _ _ rfl hown ⟨w2.heap.size, 0, none⟩ 1 1 [.int .i64 p] rfl rfl ?c1 ?c2 ?c3 ?c4 ?c5 ?_)
        case c1 =>
          intro j u hj
          cases j with
          | zero =>
            simp at hj
            rw [← hj, Addr.add_lit]
            exact (cell_of_row _ _ 0 #[.int .i64 p] 2 (0, 0) (heap_alloc_new w2 _)).trans rfl
          | succ j => simp at hj
        case c2 => intro u hu; simp at hu; subst hu; rfl
        case c3 => unfold maxLen; omega
        case c4 => omega
        case c5 => exact hsz3
        intro v' w4 hown' hgrow _
        have HB4 : Hid (Below w.heap.size w w4) := HBW.out.grown hgrow hsz3 (fun j hj => (hown.lt j hj).1)
        have HO4 : Hid (w4.ownsRow w.heap.size 2 1 v' (zsOf its (k + 1)).length ((zsOf its (k + 1)).map (.int .i64))) := by
          show World.ownsRow _ _ _ _ _ _ _
          rw [HZ.out, List.length_append, List.map_append]
          exact hown'
        clear hown hown' hgrow
        go_wp2_with fail
        refine ⟨⟨k + 1, hlt, by go_num, HO4.out, HB4.out⟩, ?_⟩
        simp [intOf]; omega
      | inr j =>
        rw [hq] at hcell hit hzs
        have HP : Hid (Calls Ybaf.prog 13 #[.string (junkOf j)] wr fun e w' => (∃ v, e = .returned (.tuple #[.int .i64 v, .bool false])) ∧ Below wr.heap.size wr w') := parse_junk F j hit wr hVr
        have HZ : Hid (zsOf its (k + 1) = zsOf its k) := hzs.trans (List.append_nil _)
        clear hzs hc0 hVr hq
        go_wp2_with fail
        refine (Calls.mono HP.out) ?_
        rintro e w2 ⟨⟨u, rfl⟩, hb2⟩
        have HO2 := owns_below HO.out hb2
        have HB2 : Below w.heap.size w w2 := HB.out.trans (hb2.mono HB.out.size)
        rw [← HZ.out] at HO2
        go_wp2_with fail
        refine ⟨⟨k + 1, hlt, by go_num, HO2, HB2⟩, ?_⟩
        simp [intOf]; omega
    · obtain rfl : k = its.length := by omega
      have hzall : zsOf its its.length = its.filterMap posOf := by unfold zsOf; rw [List.take_length]
      have hzl := zsOf_length its its.length
      rw [hzall] at hzl
      have HOz := HO.out
      rw [hzall] at HOz
      have HS : Hid _ := sort_owned w.heap.size u3 (its.filterMap posOf) wr HOz (by omega)
      have HG : Hid _ := fun j hj => (HOz.lt j hj).1
      clear hzall hzl HOz
      go_wp2_with fail
      refine (Calls.mono HS.out) ?_
      rintro e w2 ⟨rfl, hown, hgrow⟩
      have HB2 : Hid (Below w.heap.size w w2) := HB.out.grown hgrow HB.out.size HG.out
      have HO2 : Hid _ := hown
      clear hown hgrow
      go_wp2
      go_ret
      exact ⟨_, rfl, HO2.out, HB2.out⟩
end Go.Proofs.YbulkhyeFmt
