/- THE SHELF's CONTRACTS ON A strings.Builder, LAID AT THIS DUMP IN PLAIN WORDS (after lay-plain.mjs; 167 and 240 by hand: the one command left them out). -/
import Derived.Shelf.Strings.Builder1
import Derived.Test.YbulkhxqFmtProg
namespace Go.Proofs
open Go.Shelf
def Ybaf.bren : Go.Shelf.Ren := ⟨fun | 167 => 15 | 169 => 17 | 240 => 19 | 276 => 21 | n => n, fun | 0 => 0 | 3 => 3 | 4 => 4 | 5 => 5 | 9 => 9 | 20 => 20 | 37 => 86 | 70 => 85 | 72 => 88 | 75 => 91 | 80 => 95 | 127 => 101 | 164 => 102 | n => n, fun | n => n⟩
theorem Ybaf.lays240 : Go.Proofs.Lays.n240 Ybaf.prog Ybaf.bren := {
  mixed := by kernel_rfl
  f240 := Ybaf.func19.trans (congrArg some (by kernel_rfl))
  f276 := Ybaf.func21.trans (congrArg some (by kernel_rfl))
  t0 := Ybaf.underlying0
  a0 := Ybaf.isAgg0
  z0 := Ybaf.sizeOf0
  v0 := Ybaf.zeroValue0
  t4 := Ybaf.underlying4
  a4 := Ybaf.isAgg4
  z4 := Ybaf.sizeOf4
  v4 := Ybaf.zeroValue4
  t9 := Ybaf.underlying9
  a9 := Ybaf.isAgg9
  z9 := Ybaf.sizeOf9
  v9 := Ybaf.zeroValue9
  t20 := Ybaf.underlying20
  a20 := Ybaf.isAgg20
  z20 := Ybaf.sizeOf20
  v20 := Ybaf.zeroValue20
  t70 := Ybaf.underlying85
  a70 := Ybaf.isAgg85
  z70 := Ybaf.sizeOf85
  v70 := Ybaf.zeroValue85
  t72 := Ybaf.underlying88
  a72 := Ybaf.isAgg88
  z72 := Ybaf.sizeOf88
  v72 := Ybaf.zeroValue88
  t164 := Ybaf.underlying102
  a164 := Ybaf.isAgg102
  z164 := Ybaf.sizeOf102
  v164 := Ybaf.zeroValue102 }
theorem Ybaf.lays167 : Go.Proofs.Lays.n167 Ybaf.prog Ybaf.bren := {
  mixed := by kernel_rfl
  f167 := Ybaf.func15.trans (congrArg some (by kernel_rfl))
  f240 := Ybaf.func19.trans (congrArg some (by kernel_rfl))
  f276 := Ybaf.func21.trans (congrArg some (by kernel_rfl))
  t0 := Ybaf.underlying0
  a0 := Ybaf.isAgg0
  z0 := Ybaf.sizeOf0
  v0 := Ybaf.zeroValue0
  t4 := Ybaf.underlying4
  a4 := Ybaf.isAgg4
  z4 := Ybaf.sizeOf4
  v4 := Ybaf.zeroValue4
  t5 := Ybaf.underlying5
  a5 := Ybaf.isAgg5
  z5 := Ybaf.sizeOf5
  v5 := Ybaf.zeroValue5
  t9 := Ybaf.underlying9
  a9 := Ybaf.isAgg9
  z9 := Ybaf.sizeOf9
  v9 := Ybaf.zeroValue9
  t20 := Ybaf.underlying20
  a20 := Ybaf.isAgg20
  z20 := Ybaf.sizeOf20
  v20 := Ybaf.zeroValue20
  t37 := Ybaf.underlying86
  a37 := Ybaf.isAgg86
  z37 := Ybaf.sizeOf86
  v37 := Ybaf.zeroValue86
  t70 := Ybaf.underlying85
  a70 := Ybaf.isAgg85
  z70 := Ybaf.sizeOf85
  v70 := Ybaf.zeroValue85
  t72 := Ybaf.underlying88
  a72 := Ybaf.isAgg88
  z72 := Ybaf.sizeOf88
  v72 := Ybaf.zeroValue88
  t75 := Ybaf.underlying91
  a75 := Ybaf.isAgg91
  z75 := Ybaf.sizeOf91
  v75 := Ybaf.zeroValue91
  t164 := Ybaf.underlying102
  a164 := Ybaf.isAgg102
  z164 := Ybaf.sizeOf102
  v164 := Ybaf.zeroValue102 }
theorem Ybaf.lays169 : Go.Proofs.Lays.n169 Ybaf.prog Ybaf.bren := {
  mixed := by kernel_rfl
  f169 := Ybaf.func17.trans (congrArg some (by kernel_rfl))
  t0 := Ybaf.underlying0
  a0 := Ybaf.isAgg0
  z0 := Ybaf.sizeOf0
  v0 := Ybaf.zeroValue0
  t3 := Ybaf.underlying3
  a3 := Ybaf.isAgg3
  z3 := Ybaf.sizeOf3
  v3 := Ybaf.zeroValue3
  t9 := Ybaf.underlying9
  a9 := Ybaf.isAgg9
  z9 := Ybaf.sizeOf9
  v9 := Ybaf.zeroValue9
  t37 := Ybaf.underlying86
  a37 := Ybaf.isAgg86
  z37 := Ybaf.sizeOf86
  v37 := Ybaf.zeroValue86
  t70 := Ybaf.underlying85
  a70 := Ybaf.isAgg85
  z70 := Ybaf.sizeOf85
  v70 := Ybaf.zeroValue85
  t72 := Ybaf.underlying88
  a72 := Ybaf.isAgg88
  z72 := Ybaf.sizeOf88
  v72 := Ybaf.zeroValue88
  t127 := Ybaf.underlying101
  a127 := Ybaf.isAgg101
  z127 := Ybaf.sizeOf101
  v127 := Ybaf.zeroValue101 }
theorem Ybaf.builderX72 : Builder.X72 Ybaf.prog Ybaf.bren := {
  sizeBuilder := by kernel_rfl
  liesBuilder := by kernel_rfl }
theorem Ybaf.builderExtra : Builder.Extra Ybaf.prog Ybaf.bren := {
  sizeBuilder := by kernel_rfl
  liesBuilder := by kernel_rfl
  t5 := Ybaf.underlying5
  a5 := Ybaf.isAgg5
  z5 := Ybaf.sizeOf5
  v5 := Ybaf.zeroValue5
  infoByte := by kernel_rfl
  cellsByte := by kernel_rfl
  sizeByte := by kernel_rfl
  neB5 := by decide }
open Go.RowKit in
theorem Ybaf.copyCheck_used (b : Nat) (w : World) (h0 : w.cell? ⟨b, 0, none⟩ = some (.pointer (some ⟨b, 0, none⟩))) :
    Calls Ybaf.prog 19 #[.pointer (some ⟨b, 0, none⟩)] w fun e w' => e = .returned (.tuple #[]) ∧ w' = w := Any.Builder_copyCheck_used Ybaf.lays240 Ybaf.builderX72 b w h0
open Go.RowKit in
theorem Ybaf.copyCheck_fresh (b : Nat) (w : World) (h0 : w.cell? ⟨b, 0, none⟩ = some (.pointer none)) (hsh : w.shape? b = some (88, 2)) (hfz : w.frozen? ⟨b, 0, none⟩ = false) :
    Calls Ybaf.prog 19 #[.pointer (some ⟨b, 0, none⟩)] w fun e w' => e = .returned (.tuple #[]) ∧ w' = w.setCell ⟨b, 0, none⟩ (.pointer (some ⟨b, 0, none⟩)) := Any.Builder_copyCheck_fresh Ybaf.lays240 Ybaf.builderX72 b w h0 hsh hfz
open Go.RowKit in
theorem Ybaf.Builder_WriteByte (B b : Nat) (bs : List Value) (c : Int) (w : World) (h : Lib.IsBuilder 88 5 B b bs w) (hlen : bs.length + 1 ≤ 140737488355328) (hBw : B ≤ w.heap.size) :
    Calls Ybaf.prog 15 #[.pointer (some ⟨b, 0, none⟩), .int .u8 c] w fun e w' => e = .returned .nilIface ∧ (Lib.BuilderAt 88 5 B b (.pointer (some ⟨b, 0, none⟩)) (bs ++ [.int .u8 c]) w' ∧ Below B w w') := Any.Builder_WriteByte Ybaf.lays167 Ybaf.builderExtra B b bs c w h hlen hBw
open Go.RowKit in
theorem Ybaf.Builder_String_any (B b : Nat) (l : List UInt8) (w : World) (h : Lib.IsBuilder 88 5 B b (Lib.byteCells l) w) (hBw : B ≤ w.heap.size) :
    Calls Ybaf.prog 17 #[.pointer (some ⟨b, 0, none⟩)] w fun e w' => e = .returned (.string ⟨l.toArray⟩) ∧ Below B w w' := Any.Builder_String_any Ybaf.lays169 Ybaf.builderExtra B b l w h hBw
end Go.Proofs
