/- (*strings.Builder).Write and fmt.Fprintf at a builder of the call's own. -/
import Derived.Test.YbulkhxqFmtText
import Derived.Test.YbulkhxqFmtShelf
import Derived.Laws.AppendOwn
import Derived.Laws.IdiomStrings
namespace Go.Proofs.YbulkhxqFmt
open Go.Extern.Stop Go.Stop Go.Extern Go.Kit Go.RowKit

theorem info5 : (Ybaf.prog.info? 5).map (fun i => (i.zero, i.size, i.bytes)) = some (some (.int .u8 0), 1, 1) := by kernel_rfl

theorem cell_setCell_other (w : World) (a p : Addr) (v : Value) (h : p.block ≠ a.block) : (w.setCell a v).cell? p = w.cell? p :=
  World.cell?_of_block (w := w) (Below.heap_setCell _ _ _ _ h)

theorem copyCheck_any (B b : Nat) (bs : List Value) (w : World) (h : Lib.IsBuilder 88 5 B b bs w) :
    Calls Ybaf.prog 19 #[.pointer (some ⟨b, 0, none⟩)] w fun e w' => e = .returned (.tuple #[]) ∧ Lib.BuilderAt 88 5 B b (.pointer (some ⟨b, 0, none⟩)) bs w' ∧ Below B w w' ∧ ∀ p : Addr, p.block ≠ b → w'.cell? p = w.cell? p := by
  rcases h with h | h
  · refine (Ybaf.copyCheck_fresh b w h.cell0 h.shape h.frozen0).mono ?_
    rintro e w' ⟨rfl, rfl⟩
    exact ⟨rfl, h.used _, (Below.refl B w).setCell (p := ⟨b, 0, none⟩) h.1 _, fun p hp => cell_setCell_other w ⟨b, 0, none⟩ p _ hp⟩
  · refine (Ybaf.copyCheck_used b w h.cell0).mono ?_
    rintro e w' ⟨rfl, rfl⟩
    exact ⟨rfl, h, Below.refl B _, fun _ _ => rfl⟩

set_option maxHeartbeats 1000000 in
theorem write_any (B b : Nat) (bs : List Value) (ad : Addr) (m c : Nat) (news : List Value) (w : World) (h : Lib.IsBuilder 88 5 B b bs w)
    (hl : news.length = m) (hnews : ∀ j u, news[j]? = some u → w.cell? (ad.add j) = some u) (hab : ad.block ≠ b) (h1 : ∀ u ∈ news, u.oneCell' = true)
    (hlen : bs.length + m ≤ 140737488355328) (hBw : B ≤ w.heap.size) :
    Calls Ybaf.prog 52 #[.pointer (some ⟨b, 0, none⟩), .slice (some ad) m c] w fun e w' => e = .returned (.tuple #[.int .i64 m, .nilIface]) ∧ Lib.BuilderAt 88 5 B b (.pointer (some ⟨b, 0, none⟩)) (bs ++ news) w' ∧ Below B w w' := by
  obtain ⟨i0, hi, hz0, hz1, hz2⟩ := info_parts info5
  go_enter Ybaf.func52, Ybaf.ntmps52
  go_wp2_with (go_at_call 19; refine (copyCheck_any B b bs _ h).mono ?_)
  rintro e w1 ⟨rfl, h1', hb1, hk1⟩
  obtain ⟨hB, v, hbk, hown, hne⟩ := h1'
  have c0 : w1.cell? ⟨b, 0, none⟩ = some (.pointer (some ⟨b, 0, none⟩)) := by rw [Lib.cell_of_heap hbk]; rfl
  have c1 : w1.cell? ⟨b, 1, none⟩ = some v := by rw [Lib.cell_of_heap hbk]; rfl
  have hnews1 : ∀ j u, news[j]? = some u → w1.cell? (ad.add j) = some u := fun j u hj => by rw [hk1 (ad.add j) (by unfold Addr.add; split <;> exact hab)]; exact hnews j u hj
  clear hk1 hnews
  go_wp2_with (at_builtin; refine wpList_append_own _ rfl _ _ 86 rfl B 5 i0 (.int .u8 0) 1 1 Ybaf.underlying86 hi hz0 hz1 hz2 rfl (by decide) _ _ _ rfl hown ad m c news rfl (by omega) hnews1 h1 ?c3 ?c4 ?c5 ?_)
  case c3 => unfold maxLen; omega
  case c4 => omega
  case c5 => have := hb1.size; omega
  intro v' w2 hown' hgrow _
  have hlt : b < w1.heap.size := by
    rcases Nat.lt_or_ge b w1.heap.size with h' | h'
    · exact h'
    · simp [Array.getElem?_eq_none h'] at hbk
  have hb2 : w2.heap[b]? = some (.cells #[.pointer (some ⟨b, 0, none⟩), v] 88 (0, 0)) := by
    rw [hgrow.block b hlt (fun e => hne e.symm)]
    exact hbk
  have d0 : w2.cell? ⟨b, 0, none⟩ = some (.pointer (some ⟨b, 0, none⟩)) := by rw [Lib.cell_of_heap hb2]; rfl
  have d1 : w2.cell? ⟨b, 1, none⟩ = some v := by rw [Lib.cell_of_heap hb2]; rfl
  have f1 : w2.frozen? ⟨b, 1, none⟩ = false := Lib.frozen_of_heap hb2 1
  obtain ⟨ao, n', cap, rfl⟩ : ∃ ao n' cap, v' = .slice ao n' cap := by
    rcases hown'.2 with ⟨hv, _⟩ | ⟨g, cap, cur, hv, _⟩
    · exact ⟨_, _, _, hv⟩
    · exact ⟨_, _, _, hv⟩
  go_wp2
  go_ret2
  refine ⟨rfl, ?_, ?_⟩
  · exact Lib.BuilderAt.put (T := 88) (e := 5) hB hb2 (bs' := bs ++ news) (by simpa [hl] using hown') (by decide)
  · exact (hb1.grown hgrow (by have := hb1.size; omega) (fun k hk => (hown.lt k hk).1)).setCell (p := ⟨b, 1, none⟩) hB _

theorem bytes_cell (w : World) (o : Obj) (l : List UInt8) (S : ByteArray) (hS : S = ⟨l.toArray⟩) (cap : Nat) (fr : Nat × Nat) (j : Nat) (u : Value) (hj : (Lib.byteCells l)[j]? = some u) :
    ((w.alloc o).alloc (.cells (bytesRow S cap) 5 fr)).drew.drew.cell? ((⟨w.heap.size + 1, 0, none⟩ : Addr).add j) = some u := by
  subst hS
  have hsz : (w.alloc o).heap.size = w.heap.size + 1 := by simp
  show ((w.alloc o).alloc _).cell? _ = _
  rw [Addr.add_lit, ← hsz, Nat.zero_add, World.cell?_alloc_mark]
  simp only [Lib.byteCells, List.getElem?_map, Option.map_eq_some_iff] at hj
  obtain ⟨x, hx, rfl⟩ := hj
  obtain ⟨hlt, rfl⟩ := List.getElem?_eq_some_iff.1 hx
  rw [bytesRow_at _ _ j (by simpa using hlt)]
  simp

/-- A builder stays one while a new block is laid (a draw turns nothing). -/
theorem builderAt_alloc {T e : TypeId} {B b : Nat} {p : Value} {bs : List Value} {w : World} (h : Lib.BuilderAt T e B b p bs w) (o : Obj) : Lib.BuilderAt T e B b p bs (w.alloc o) := by
  have hlt := h.lt
  obtain ⟨hB, v, hb, hown, hne⟩ := h
  exact ⟨hB, v, by rw [Below.heap_alloc _ _ _ hlt]; exact hb, hown.alloc _, hne⟩
theorem builder_alloc {T e : TypeId} {B b : Nat} {bs : List Value} {w : World} (h : Lib.IsBuilder T e B b bs w) (o : Obj) : Lib.IsBuilder T e B b bs (w.alloc o) := by
  rcases h with h | h
  · exact .inl (builderAt_alloc h o)
  · exact .inr (builderAt_alloc h o)

set_option maxHeartbeats 1000000 in
set_option maxRecDepth 100000 in
theorem fprintf_any (F : Interp) (B b : Nat) (bs : List Value) (c : Int) (w : World) (hF : F.told.answers w.tape) (h : Lib.IsBuilder 88 5 B b bs w) (h0 : 0 ≤ c) (hc : c < 256) (hw : (Lit.int .u8 c).wf = true) (hlen : bs.length + 3 ≤ 140737488355328) (hBw : B ≤ w.heap.size) :
    Calls Ybaf.prog 16 #[.iface 85 (.pointer (some ⟨b, 0, none⟩)), .string ⟨#[61, 37, 48, 50, 88]⟩, .slice (some ⟨w.heap.size, 0, none⟩) 1 1] (w.alloc (.cells #[.iface 5 (.int .u8 c)] 20)) fun e w' =>
      e = .returned (.tuple #[.int .i64 3, .nilIface]) ∧ Lib.BuilderAt 88 5 B b (.pointer (some ⟨b, 0, none⟩)) (bs ++ Lib.byteCells (escT c)) w' ∧ Below B w w' := by
  have hF' := answers_open hF
  have k1 := call20
  have k2 := fguard
  have k3 := fmt0
  have k4 := fmt0r
  have k5 := op5_88
  have hm : ∀ w : World, (method 353 85 (.pointer (some ⟨b, 0, none⟩)) "Write").run Ybaf.prog w = .ok (52, .pointer (some ⟨b, 0, none⟩)) w := fun _ => by kernel_rfl
  have hcv2 := fun w s => run_bytes_of_string (P := Ybaf.prog) w 9 86 5 s Ybaf.underlying9 Ybaf.underlying86 Ybaf.underlying5
  obtain ⟨S, hS⟩ : ∃ S, S = (⟨(escT c).toArray⟩ : ByteArray) := ⟨_, rfl⟩
  have hS3 : S.size = 3 := by rw [hS]; rfl
  have ht : FmtStop.textOf (F.told "fmt.Sprintf" [[61, 37, 48, 50, 88], shape5, digits 8 (c % 18446744073709551616).toNat] 0) = S := by rw [hS]; exact told_text F c h0 hc hw
  have HS : Hid (S = (⟨(escT c).toArray⟩ : ByteArray)) := hS
  have HB : Hid (Lib.IsBuilder 88 5 B b bs w) := h
  have HL : Hid (b < w.heap.size) := by rcases h with h | h <;> exact h.lt
  clear h hS
  go_enter Ybaf.func16, Ybaf.ntmps16
  go_wp2_with fail
  generalize hcap : grownCap (w.alloc (Obj.cells #[Value.iface 5 (Value.int IntKind.u8 c)] 20)).drew 3 0 5 = cap
  refine (write_any B b bs ⟨w.heap.size + 1, 0, none⟩ 3 cap (Lib.byteCells (escT c)) _ ?hb (by rfl) ?hn (by have := HL.out; show w.heap.size + 1 ≠ b; omega) ?h1 (by omega) ?hw).mono ?_
  case hb => exact builder_alloc (builder_alloc HB.out _) _
  case hn =>
    intro j u hj
    exact bytes_cell w _ (escT c) S HS.out cap _ j u hj
  case h1 =>
    intro v hv
    simp only [Lib.byteCells, List.mem_map] at hv
    obtain ⟨x, _, rfl⟩ := hv
    rfl
  case hw => simp; omega
  rintro e w' ⟨rfl, hB2, hbw⟩
  have HB2 : Hid _ := hB2
  have HBW : Hid _ := hbw
  clear hB2 hbw
  go_wp2
  go_ret2
  refine ⟨rfl, HB2.out, ?_⟩
  exact ((((Below.refl B w).alloc hBw _).alloc (by simp; omega) _).drew.drew).trans HBW.out
end Go.Proofs.YbulkhxqFmt
