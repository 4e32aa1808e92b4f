/-
  THE SHELF's CONTRACTS AT THIS PROGRAM, IN PLAIN WORDS, as the kit's lay-shelf.mjs and lay-plain.mjs wrote them for it.
-/
import Derived.Ground.MnProg
import Derived.Shelf.Bin.Uvarint
import Derived.Shelf.Bin.UvarintEmpty
import Derived.Test.YbulkbcnsFmtProg
namespace Go.Proofs
open Go.Shelf
def Ybaf.laysBin45_ren : Go.Shelf.Ren := ⟨fun | 45 => 21 | n => n, fun | 22 => 24 | 33 => 36 | 3 => 3 | 45 => 63 | 0 => 0 | 5 => 5 | 4 => 4 | n => n, fun | n => n⟩
theorem Ybaf.laysBin45 : Go.Proofs.LaysBin.n45 Ybaf.prog Ybaf.laysBin45_ren := {
  mixed := by kernel_rfl
  f45 := Ybaf.func21.trans (congrArg some (by kernel_rfl))
  t0 := Ybaf.underlying0
  a0 := Ybaf.isAgg0
  z0 := Ybaf.sizeOf0
  v0 := Ybaf.zeroValue0
  i0 := by kernel_rfl
  t3 := Ybaf.underlying3
  a3 := Ybaf.isAgg3
  z3 := Ybaf.sizeOf3
  v3 := Ybaf.zeroValue3
  i3 := by kernel_rfl
  t4 := Ybaf.underlying4
  a4 := Ybaf.isAgg4
  z4 := Ybaf.sizeOf4
  v4 := Ybaf.zeroValue4
  i4 := by kernel_rfl
  t5 := Ybaf.underlying5
  a5 := Ybaf.isAgg5
  z5 := Ybaf.sizeOf5
  v5 := Ybaf.zeroValue5
  i5 := by kernel_rfl
  t22 := Ybaf.underlying24
  a22 := Ybaf.isAgg24
  z22 := Ybaf.sizeOf24
  v22 := Ybaf.zeroValue24
  i22 := by kernel_rfl
  t33 := Ybaf.underlying36
  a33 := Ybaf.isAgg36
  z33 := Ybaf.sizeOf36
  v33 := Ybaf.zeroValue36
  i33 := by kernel_rfl
  t45 := Ybaf.underlying63
  a45 := Ybaf.isAgg63
  z45 := Ybaf.sizeOf63
  v45 := Ybaf.zeroValue63
  i45 := by kernel_rfl }
open Go.RowKit in
theorem Ybaf.binary_Uvarint (g o n c : Nat) (l : List UInt8) (w : World) (hl : l.length = n) (hcell : ∀ j (hj : j < l.length), w.cell? ⟨g, o + j, none⟩ = some (.int .u8 (l[j]).toNat)) :
    Calls Ybaf.prog 21 #[.slice (some ⟨g, o, none⟩) n c] w fun e w' => e = .returned (.tuple #[.int .u64 (Lib.uvarintDec l).1, .int .i64 (Lib.uvarintDec l).2]) ∧ w' = w := Any.binary_Uvarint Ybaf.laysBin45 g o n c l w hl hcell
open Go.RowKit in
theorem Ybaf.binary_Uvarint_empty (ao : Option Addr) (c : Nat) (w : World) :
    Calls Ybaf.prog 21 #[.slice ao 0 c] w fun e w' => e = .returned (.tuple #[.int .u64 (Lib.uvarintDec []).1, .int .i64 (Lib.uvarintDec []).2]) ∧ w' = w := Any.binary_Uvarint_empty Ybaf.laysBin45 ao c w
end Go.Proofs
