/- THE WALK OF LawS0432CExisting. -/
import Derived.Test.YbulkhxqFmtEntry
namespace Go.Proofs.YbulkhxqFmt
open Go.Extern.Stop Go.Stop Go.Extern Go.Kit Go.RowKit Go.WideMaps Go.Maps

/-- THE CELLS OF THE ENTRY THAT THE LAW LAYS. -/
def preCells (bk : ByteArray) (ver : Int) : Array Value :=
  #[.string bk, .pointer none, .int .i32 0, .int .u32 0, .string ⟨#[]⟩, .string ⟨#[]⟩, .int .u64 ver, .int .u64 0, .string ⟨#[102, 97, 105, 108, 101, 100]⟩, .int .i64 0,
    .string ⟨#[]⟩, .string ⟨#[]⟩, .int .u64 0, .int .i64 0, .pointer none, .int .u64 0, .bool false, .bool false, .pointer none]

/-- WHAT IS KNOWN BEHIND 'g.entries[bk] = e', e new, bk with a dot. -/
theorem stored_facts {N k : Nat} {nm : List ByteArray} {D : DataW Unit} {w2 w3 : World} {cs : Array Value} {bk : ByteArray} (hG2 : Grp N nm k D w2) (hfil : Fil k D) (hdot : 46 ∈ bk.data.toList) (hsz : bk.size ≤ maxLen)
    (hgrow : (w2.alloc (.cells cs 73)).grownBy w3 (some (N + 1))) (hown : w3.ownsMap Ybaf.prog 9 ptrElem (N + 1) (k + 1) (D.put (.string bk.data.toList) (.lit (.int .i64 (w2.heap.size : Int))))) :
    ∃ D3, Hid (Grp N nm (k + 1) D3 w3) ∧ w3.cell? ⟨N + 2, 21, none⟩ = some (.map (some (N + 1))) ∧
      (∀ ty, (Builtin.len_ #[46] ty #[.map (some (N + 1))]).run Ybaf.prog w3 = .ok (.int .i64 ((k + 1 : Nat) : Int)) w3) ∧
      Hid (∀ z, D3.atKey (.string bk.data.toList) z = .lit (.int .i64 (w2.heap.size : Int))) ∧ Hid (w3.heap[w2.heap.size]? = some (.cells cs 73 (0, 0))) ∧ w2.heap.size < w3.heap.size ∧ Hid (Below N w2 w3) ∧ Hid (Maps.size D3 = k + 1) := by
  have hal : w2.heap.size < (w2.alloc (.cells cs 73)).heap.size := by simp
  have hlt2 := hG2.lt
  have hG3 : Grp N nm (k + 1) _ w3 := (hG2.alloc _).stored hgrow hown
  have hno : Maps.has D (.string bk.data.toList) = false := hfil.2 _ (Or.inl hdot)
  have hsz3 : Maps.size (D.put (.string bk.data.toList) (.lit (.int .i64 (w2.heap.size : Int)))) = k + 1 := by
    rw [size_put (hG2.map.tidy law9), hno, hfil.1]; rfl
  refine ⟨_, hG3, hG3.c21, fun ty => by rw [← hsz3]; exact hG3.map.len Ybaf.underlying46 ty, fun z => atKey_put_same hG2.map.isMap (law9.key (keyOf_string_mk Ybaf.underlying9 hsz)) _ z,
    (hgrow.block w2.heap.size hal (by intro e; injection e with e; omega)).trans (heap_alloc_new w2 _), Nat.lt_of_lt_of_le hal hgrow.size, ?_, hsz3⟩
  exact ((Below.refl N w2).alloc (by omega) _).grown hgrow (by simp; omega) (fun j hj => by injection hj with hj; omega)

theorem info73 : (Ybaf.prog.info? 73).isSome = true := by kernel_rfl
theorem neq62 (a : Addr) (w : World) : (binOp .neq 62 (.pointer (some a)) (.pointer (some a))).run Ybaf.prog w = .ok (.bool false) w := by
  obtain ⟨j, hj⟩ := Option.isSome_iff_exists.1 info73
  exact Lib.run_neq_ptr_same w a Ybaf.underlying62 hj

set_option maxHeartbeats 2000000 in
set_option maxRecDepth 100000 in
theorem existing_any (F : Interp) (sub key : ByteArray) (a0 : Option Addr) (xb xo cap : Nat) (nm : List ByteArray) (ver x : Int) (w : World) (hF : F.told.answers w.tape) (hn : nm.length ≤ 1024) (hs : sub.size ≤ 1024) (hk : key.size ≤ 1024) (hx0 : 0 ≤ x) (hx1 : x < 256)
    (hxa : 0 < nm.length → a0 = some ⟨xb, xo, none⟩) (hc : ∀ j, j < nm.length → w.cell? ⟨xb, xo + j, none⟩ = some (.string (nm.getD j ByteArray.empty))) :
    Calls Ybaf.prog 4 #[.string sub, .string key, .slice a0 nm.length cap, .int .u64 ver, .int .u8 x] w fun e w' => e = .returned (.bool true) ∧ Below w.heap.size w w' := by
  have HXA : Hid (0 < nm.length → a0 = some ⟨xb, xo, none⟩) := hxa
  have HC : Hid (∀ j, j < nm.length → w.cell? ⟨xb, xo + j, none⟩ = some (.string (nm.getD j ByteArray.empty))) := hc
  clear hxa hc
  go_enter Ybaf.func4, Ybaf.ntmps4
  go_wp2_with fail
  refine (group_any a0 xb xo cap nm x _ hn hx0 hx1 HXA.out HC.out).mono ?_
  rintro e w1 ⟨rfl, hb1, k, D, hk3, hfil, hG⟩
  have HB1 : Hid (Below w.heap.size w w1) := hb1
  have HFIL : Hid (Fil k D) := hfil
  have HG1 : Hid (Grp w.heap.size nm k D w1) := hG
  clear hb1 hfil hG HC HXA
  go_wp2_with fail
  refine (checkpointKey_any F sub key _ (by rw [HB1.out.tape]; exact hF) hs hk).mono ?_
  rintro e w2 ⟨rfl, hb2⟩
  have HB2 : Hid (Below w1.heap.size w1 w2) := hb2
  have hG2 := HG1.out.below hb2 HG1.out.lt
  have HG2 : Hid (Grp w.heap.size nm k D w2) := hG2
  have hlt2 := hG2.lt
  have g21 := hG2.c21
  clear hb2 hG2
  have hcs := ckey_size sub key hs hk
  go_wp2_with (first | (at_mapUpdate; go_must (refine wpList_mapUpdate_own _ rfl _ _ _ 46 rfl 9 62 law9 Ybaf.underlying46 _ (w.heap.size + 1) k _ rfl (HG2.out.alloc _).map (by unfold maxLen; omega) _ _ _ rfl rfl (keyOf_string_mk Ybaf.underlying9 (by unfold maxLen; omega)) _ [] (ptrElem_mk _) ?_); intro w3 hown3 hgrow3; obtain ⟨D3, HG3, g213, hlen3, HAT, HE3, hlt3, HB3, HSZ⟩ := stored_facts HG2.out HFIL.out (ckey_dot sub key) (by unfold maxLen; omega) hgrow3 hown3; clear hown3 hgrow3) | fail)
  refine (entryOf_there F w.heap.size (k + 1) nm D3 sub key w2.heap.size _ (by rw [HB3.out.tape, HB2.out.tape, HB1.out.tape]; exact hF) hs hk HG3.out HAT.out).mono ?_
  rintro e w4 ⟨rfl, hb4⟩
  have hG4 := HG3.out.below hb4 HG3.out.lt
  have g214 := hG4.c21
  have hlen4 : ∀ ty, (Builtin.len_ #[46] ty #[.map (some (w.heap.size + 1))]).run Ybaf.prog w4 = .ok (.int .i64 ((k + 1 : Nat) : Int)) w4 := fun ty => by rw [← HSZ.out]; exact hG4.map.len Ybaf.underlying46 ty
  obtain ⟨v, ps, hrun4, hv⟩ := hG4.map.lookup law9 Ybaf.underlying46 (zero62 w4) ptrElem_nil (keyOf_string_mk Ybaf.underlying9 (s := ckey sub key) (by unfold maxLen; omega))
  rw [HAT.out] at hv
  obtain rfl := ptrElem_inv hv
  have hE4 := (hb4.block w2.heap.size hlt3).trans HE3.out
  have HB4 : Hid (Below w3.heap.size w3 w4) := hb4
  have hcl := fun j => Lib.cell_of_heap hE4 j
  have hne := neq62
  clear hb4 hv hG4 hE4 g21 g213 hlen3
  go_wp2
  go_ret
  exact ⟨rfl, ((HB1.out.trans (HB2.out.mono HB1.out.size)).trans HB3.out).trans (HB4.out.mono (by omega))⟩
end Go.Proofs.YbulkhxqFmt
