/-
  THE SHELF's CONTRACTS AT THIS PROGRAM, IN PLAIN WORDS, as the kit's lay-shelf.mjs and lay-plain.mjs wrote them for it.
-/
import Derived.Ground.MnProg
import Derived.Shelf.Bin.AppendUvarint
import Derived.Shelf.Bin.Uvarint
import Derived.Shelf.Bin.UvarintEmpty
import Derived.Shelf.Bytes.SlEqualAll
import Derived.Test.YbulkbcsaProg
namespace Go.Proofs
open Go.Shelf
def Yba.laysBin47_ren : Go.Shelf.Ren := ⟨fun | 47 => 5 | n => n, fun | 22 => 22 | 33 => 24 | 4 => 4 | 5 => 5 | 45 => 31 | n => n, fun | n => n⟩
theorem Yba.laysBin47 : Go.Proofs.LaysBin.n47 Yba.prog Yba.laysBin47_ren := {
  mixed := by kernel_rfl
  f47 := Yba.func5.trans (congrArg some (by kernel_rfl))
  t4 := Yba.underlying4
  a4 := Yba.isAgg4
  z4 := Yba.sizeOf4
  v4 := Yba.zeroValue4
  i4 := by kernel_rfl
  t5 := Yba.underlying5
  a5 := Yba.isAgg5
  z5 := Yba.sizeOf5
  v5 := Yba.zeroValue5
  i5 := by kernel_rfl
  t22 := Yba.underlying22
  a22 := Yba.isAgg22
  z22 := Yba.sizeOf22
  v22 := Yba.zeroValue22
  i22 := by kernel_rfl
  t33 := Yba.underlying24
  a33 := Yba.isAgg24
  z33 := Yba.sizeOf24
  v33 := Yba.zeroValue24
  i33 := by kernel_rfl
  t45 := Yba.underlying31
  a45 := Yba.isAgg31
  z45 := Yba.sizeOf31
  v45 := Yba.zeroValue31
  i45 := by kernel_rfl }
open Go.RowKit in
theorem Yba.binary_AppendUvarint (B n x : Nat) (hx : x < 18446744073709551616) (sv : Value) (xs : List Value) (w : World) (hown : w.ownsRow B 5 1 sv n xs) (hBw : B ≤ w.heap.size) (hlim : n + 10 ≤ 140737488355328) :
    Calls Yba.prog 5 #[sv, .int .u64 x] w fun e w' => ∃ v', e = .returned v' ∧ w'.ownsRow B 5 1 v' (n + (Lib.uvarint x).length) (xs ++ Lib.byteCells (Lib.uvarint x)) ∧ Below B w w' := Any.binary_AppendUvarint Yba.laysBin47 B n x hx sv xs w hown hBw hlim
def Yba.laysBin45_ren : Go.Shelf.Ren := ⟨fun | 45 => 8 | n => n, fun | 22 => 22 | 33 => 24 | 3 => 3 | 45 => 31 | 0 => 0 | 5 => 5 | 4 => 4 | n => n, fun | n => n⟩
theorem Yba.laysBin45 : Go.Proofs.LaysBin.n45 Yba.prog Yba.laysBin45_ren := {
  mixed := by kernel_rfl
  f45 := Yba.func8.trans (congrArg some (by kernel_rfl))
  t0 := Yba.underlying0
  a0 := Yba.isAgg0
  z0 := Yba.sizeOf0
  v0 := Yba.zeroValue0
  i0 := by kernel_rfl
  t3 := Yba.underlying3
  a3 := Yba.isAgg3
  z3 := Yba.sizeOf3
  v3 := Yba.zeroValue3
  i3 := by kernel_rfl
  t4 := Yba.underlying4
  a4 := Yba.isAgg4
  z4 := Yba.sizeOf4
  v4 := Yba.zeroValue4
  i4 := by kernel_rfl
  t5 := Yba.underlying5
  a5 := Yba.isAgg5
  z5 := Yba.sizeOf5
  v5 := Yba.zeroValue5
  i5 := by kernel_rfl
  t22 := Yba.underlying22
  a22 := Yba.isAgg22
  z22 := Yba.sizeOf22
  v22 := Yba.zeroValue22
  i22 := by kernel_rfl
  t33 := Yba.underlying24
  a33 := Yba.isAgg24
  z33 := Yba.sizeOf24
  v33 := Yba.zeroValue24
  i33 := by kernel_rfl
  t45 := Yba.underlying31
  a45 := Yba.isAgg31
  z45 := Yba.sizeOf31
  v45 := Yba.zeroValue31
  i45 := by kernel_rfl }
open Go.RowKit in
theorem Yba.binary_Uvarint (g o n c : Nat) (l : List UInt8) (w : World) (hl : l.length = n) (hcell : ∀ j (hj : j < l.length), w.cell? ⟨g, o + j, none⟩ = some (.int .u8 (l[j]).toNat)) :
    Calls Yba.prog 8 #[.slice (some ⟨g, o, none⟩) n c] w fun e w' => e = .returned (.tuple #[.int .u64 (Lib.uvarintDec l).1, .int .i64 (Lib.uvarintDec l).2]) ∧ w' = w := Any.binary_Uvarint Yba.laysBin45 g o n c l w hl hcell
open Go.RowKit in
theorem Yba.binary_Uvarint_empty (ao : Option Addr) (c : Nat) (w : World) :
    Calls Yba.prog 8 #[.slice ao 0 c] w fun e w' => e = .returned (.tuple #[.int .u64 (Lib.uvarintDec []).1, .int .i64 (Lib.uvarintDec []).2]) ∧ w' = w := Any.binary_Uvarint_empty Yba.laysBin45 ao c w
def Yba.laysnb115_ren : Go.Shelf.Ren := ⟨fun | 115 => 7 | n => n, fun | 37 => 22 | 4 => 4 | 9 => 9 | 5 => 5 | n => n, fun | n => n⟩
theorem Yba.laysnb115 : Go.Proofs.Lays.nb115 Yba.prog Yba.laysnb115_ren := {
  mixed := by kernel_rfl
  f115 := Yba.func7.trans (congrArg some (by kernel_rfl))
  t4 := Yba.underlying4
  a4 := Yba.isAgg4
  z4 := Yba.sizeOf4
  v4 := Yba.zeroValue4
  t9 := Yba.underlying9
  a9 := Yba.isAgg9
  z9 := Yba.sizeOf9
  v9 := Yba.zeroValue9
  t37 := Yba.underlying22
  a37 := Yba.isAgg22
  z37 := Yba.sizeOf22
  v37 := Yba.zeroValue22
  t5 := Yba.underlying5
  a5 := Yba.isAgg5
  z5 := Yba.sizeOf5
  v5 := Yba.zeroValue5 }
theorem Yba.bytes_Equal_all (p1 p2 : Option Addr) (n c m d : Nat) (xs ys : List Int) (w : World) (hx : xs.length = n) (hy : ys.length = m) (h1 : Lib.BytesIn w p1 n xs) (h2 : Lib.BytesIn w p2 m ys) :
    Calls Yba.prog 7 #[.slice p1 n c, .slice p2 m d] w fun e w' => e = .returned (.bool (Lib.bytesOf xs == Lib.bytesOf ys)) ∧ w' = w := Any.bytes_Equal_all Yba.laysnb115 p1 p2 n c m d xs ys w hx hy h1 h2
end Go.Proofs
