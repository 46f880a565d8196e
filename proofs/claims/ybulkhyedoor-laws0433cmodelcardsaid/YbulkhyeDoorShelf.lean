/- THE SHELF's CONTRACT ON encoding.hex.Decode, LAID AT THIS DUMP IN PLAIN WORDS (lay-plain.mjs). -/
import Derived.Shelf.Hex.Tagged
import Derived.Shelf.Hex.Lens
import Derived.Test.YbulkhyeDoorProg
namespace Go.Proofs
open Go.Shelf
def Ybad.laysPa44_ren : Go.Shelf.Ren := ⟨fun | 44 => 9 | n => n, fun | 30 => 23 | 3 => 3 | 35 => 33 | 4 => 4 | 0 => 0 | 5 => 5 | 9 => 9 | 47 => 37 | 46 => 24 | 45 => 41 | n => n, fun | 0 => 0 | n => n⟩
theorem Ybad.laysPa44 : Go.Proofs.Lays.p44 Ybad.prog Ybad.laysPa44_ren := {
  mixed := by kernel_rfl
  f44 := Ybad.func9.trans (congrArg some (by kernel_rfl))
  t0 := Ybad.underlying0
  a0 := Ybad.isAgg0
  z0 := Ybad.sizeOf0
  v0 := Ybad.zeroValue0
  t3 := Ybad.underlying3
  a3 := Ybad.isAgg3
  z3 := Ybad.sizeOf3
  v3 := Ybad.zeroValue3
  t4 := Ybad.underlying4
  a4 := Ybad.isAgg4
  z4 := Ybad.sizeOf4
  v4 := Ybad.zeroValue4
  t5 := Ybad.underlying5
  a5 := Ybad.isAgg5
  z5 := Ybad.sizeOf5
  v5 := Ybad.zeroValue5
  t9 := Ybad.underlying9
  a9 := Ybad.isAgg9
  z9 := Ybad.sizeOf9
  v9 := Ybad.zeroValue9
  t30 := Ybad.underlying23
  a30 := Ybad.isAgg23
  z30 := Ybad.sizeOf23
  v30 := Ybad.zeroValue23
  t35 := Ybad.underlying33
  a35 := Ybad.isAgg33
  z35 := Ybad.sizeOf33
  v35 := Ybad.zeroValue33
  t45 := Ybad.underlying41
  a45 := Ybad.isAgg41
  z45 := Ybad.sizeOf41
  v45 := Ybad.zeroValue41
  t46 := Ybad.underlying24
  a46 := Ybad.isAgg24
  z46 := Ybad.sizeOf24
  v46 := Ybad.zeroValue24
  t47 := Ybad.underlying37
  a47 := Ybad.isAgg37
  z47 := Ybad.sizeOf37
  v47 := Ybad.zeroValue37
  g0 := by kernel_rfl }
open Go.RowKit Go.Lib in
theorem Ybad.hex_Decode_tag (T : TypeId) (bd od nd cd N : Nat) (f : Nat → Value) (bs os n cs : Nat) (xs : List Int) (w : World) (ev : Value) (hx : xs.length = n) (hr : ∀ i, i < n → 0 ≤ xs.getD i 0 ∧ xs.getD i 0 < 256) (hsrc : ∀ i, i < n → w.cell? ⟨bs, os + i, none⟩ = some (.int .u8 (xs.getD i 0))) (hrow : w.rowIs bd T N f) (hfit : od + nd ≤ N) (hlen : n / 2 ≤ nd) (hne : bd ≠ bs) (hbig : n ≤ 4611686018427387903) (hE : w.cell? ⟨0, 0, none⟩ = some ev) (hgb : 0 ≠ bd) :
    Calls Ybad.prog 9 #[.slice (some ⟨bd, od, none⟩) nd cd, .slice (some ⟨bs, os, none⟩) n cs] w fun e w' =>
      e = .returned (.tuple #[.int .i64 ((Hx.decode (Lib.bytesOf xs)).1.length : Int), Hx.errVal 37 ev (Hx.decode (Lib.bytesOf xs)).2]) ∧ w'.rowIs bd T N (Hx.rowP f od (Hx.decode (Lib.bytesOf xs)).1) ∧ w.grownBy w' (some bd) := Any.hex_Decode_tag Ybad.laysPa44 T bd od nd cd N f bs os n cs xs w ev hx hr hsrc hrow hfit hlen hne hbig hE hgb
def Ybad.laysPa41_ren : Go.Shelf.Ren := ⟨fun | 41 => 8 | n => n, fun | 3 => 3 | n => n, fun | n => n⟩
theorem Ybad.laysPa41 : Go.Proofs.Lays.p41 Ybad.prog Ybad.laysPa41_ren := {
  mixed := by kernel_rfl
  f41 := Ybad.func8.trans (congrArg some (by kernel_rfl))
  t3 := Ybad.underlying3
  a3 := Ybad.isAgg3
  z3 := Ybad.sizeOf3
  v3 := Ybad.zeroValue3 }
open Go.RowKit Go.Lib in
theorem Ybad.hex_EncodedLen (n : Int) (h0 : 0 ≤ n) (h1 : n < 4611686018427387904) (w : World) :
    Calls Ybad.prog 8 #[.int .i64 n] w fun e w' => e = .returned (.int .i64 (n * 2)) ∧ w' = w := Any.hex_EncodedLen Ybad.laysPa41 n h0 h1 w
end Go.Proofs
