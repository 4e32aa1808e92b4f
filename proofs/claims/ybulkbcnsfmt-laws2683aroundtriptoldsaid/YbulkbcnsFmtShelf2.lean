/-
  THE SHELF's CONTRACTS AT THIS PROGRAM, IN PLAIN WORDS, as the kit's lay-shelf.mjs and lay-plain.mjs wrote them for it.
-/
import Derived.Ground.MnProg
import Derived.Shelf.Bin.LEUint32
import Derived.Shelf.Bin.LEAppendUint32
import Derived.Shelf.Bin.AppendUvarint
import Derived.Shelf.Bytes.SlEqualAll
import Derived.Shelf.Spec.SlicesGrow
import Derived.Test.YbulkbcnsFmtProg
namespace Go.Proofs
open Go.Shelf
def Ybaf.laysBin30_ren : Go.Shelf.Ren := ⟨fun | 30 => 31 | n => n, fun | 25 => 58 | 22 => 24 | 29 => 23 | 0 => 0 | 5 => 5 | 45 => 63 | n => n, fun | n => n⟩
theorem Ybaf.laysBin30 : Go.Proofs.LaysBin.n30 Ybaf.prog Ybaf.laysBin30_ren := {
  mixed := by kernel_rfl
  f30 := Ybaf.func31.trans (congrArg some (by kernel_rfl))
  t0 := Ybaf.underlying0
  a0 := Ybaf.isAgg0
  z0 := Ybaf.sizeOf0
  v0 := Ybaf.zeroValue0
  i0 := by kernel_rfl
  t5 := Ybaf.underlying5
  a5 := Ybaf.isAgg5
  z5 := Ybaf.sizeOf5
  v5 := Ybaf.zeroValue5
  i5 := by kernel_rfl
  t22 := Ybaf.underlying24
  a22 := Ybaf.isAgg24
  z22 := Ybaf.sizeOf24
  v22 := Ybaf.zeroValue24
  i22 := by kernel_rfl
  t25 := Ybaf.underlying58
  a25 := Ybaf.isAgg58
  z25 := Ybaf.sizeOf58
  v25 := Ybaf.zeroValue58
  i25 := by kernel_rfl
  t29 := Ybaf.underlying23
  a29 := Ybaf.isAgg23
  z29 := Ybaf.sizeOf23
  v29 := Ybaf.zeroValue23
  i29 := by kernel_rfl
  t45 := Ybaf.underlying63
  a45 := Ybaf.isAgg63
  z45 := Ybaf.sizeOf63
  v45 := Ybaf.zeroValue63
  i45 := by kernel_rfl }
open Go.RowKit in
theorem Ybaf.binary_LE_Uint32 (g o n c : Nat) (b0 b1 b2 b3 : UInt8) (w : World) (hn : 4 ≤ n) (c0 : w.cell? ⟨g, o, none⟩ = some (.int .u8 b0.toNat)) (c1 : w.cell? ⟨g, o + 1, none⟩ = some (.int .u8 b1.toNat)) (c2 : w.cell? ⟨g, o + 2, none⟩ = some (.int .u8 b2.toNat)) (c3 : w.cell? ⟨g, o + 3, none⟩ = some (.int .u8 b3.toNat)) :
    Calls Ybaf.prog 31 #[.agg #[], .slice (some ⟨g, o, none⟩) n c] w fun e w' => e = .returned (.int .u32 (Lib.leNat [b0, b1, b2, b3])) ∧ Below w.heap.size w w' := Any.binary_LE_Uint32 Ybaf.laysBin30 g o n c b0 b1 b2 b3 w hn c0 c1 c2 c3
def Ybaf.laysBin32_ren : Go.Shelf.Ren := ⟨fun | 32 => 16 | n => n, fun | 25 => 58 | 22 => 24 | 29 => 23 | 0 => 0 | 5 => 5 | 45 => 63 | n => n, fun | n => n⟩
theorem Ybaf.laysBin32 : Go.Proofs.LaysBin.n32 Ybaf.prog Ybaf.laysBin32_ren := {
  mixed := by kernel_rfl
  f32 := Ybaf.func16.trans (congrArg some (by kernel_rfl))
  t0 := Ybaf.underlying0
  a0 := Ybaf.isAgg0
  z0 := Ybaf.sizeOf0
  v0 := Ybaf.zeroValue0
  i0 := by kernel_rfl
  t5 := Ybaf.underlying5
  a5 := Ybaf.isAgg5
  z5 := Ybaf.sizeOf5
  v5 := Ybaf.zeroValue5
  i5 := by kernel_rfl
  t22 := Ybaf.underlying24
  a22 := Ybaf.isAgg24
  z22 := Ybaf.sizeOf24
  v22 := Ybaf.zeroValue24
  i22 := by kernel_rfl
  t25 := Ybaf.underlying58
  a25 := Ybaf.isAgg58
  z25 := Ybaf.sizeOf58
  v25 := Ybaf.zeroValue58
  i25 := by kernel_rfl
  t29 := Ybaf.underlying23
  a29 := Ybaf.isAgg23
  z29 := Ybaf.sizeOf23
  v29 := Ybaf.zeroValue23
  i29 := by kernel_rfl
  t45 := Ybaf.underlying63
  a45 := Ybaf.isAgg63
  z45 := Ybaf.sizeOf63
  v45 := Ybaf.zeroValue63
  i45 := by kernel_rfl }
open Go.RowKit in
theorem Ybaf.binary_LE_AppendUint32 (B n v : Nat) (hv : v < 4294967296) (sv : Value) (xs : List Value) (w : World) (hown : w.ownsRow B 5 1 sv n xs) (hBw : B ≤ w.heap.size) (hlim : n + 4 ≤ 140737488355328) :
    Calls Ybaf.prog 16 #[.agg #[], sv, .int .u32 v] w fun e w' => ∃ v', e = .returned v' ∧ w'.ownsRow B 5 1 v' (n + 4) (xs ++ Lib.byteCells (Lib.leBytes 4 v)) ∧ Below B w w' := Any.binary_LE_AppendUint32 Ybaf.laysBin32 B n v hv sv xs w hown hBw hlim
def Ybaf.laysBin47_ren : Go.Shelf.Ren := ⟨fun | 47 => 13 | n => n, fun | 22 => 24 | 33 => 36 | 4 => 4 | 5 => 5 | 45 => 63 | n => n, fun | n => n⟩
theorem Ybaf.laysBin47 : Go.Proofs.LaysBin.n47 Ybaf.prog Ybaf.laysBin47_ren := {
  mixed := by kernel_rfl
  f47 := Ybaf.func13.trans (congrArg some (by kernel_rfl))
  t4 := Ybaf.underlying4
  a4 := Ybaf.isAgg4
  z4 := Ybaf.sizeOf4
  v4 := Ybaf.zeroValue4
  i4 := by kernel_rfl
  t5 := Ybaf.underlying5
  a5 := Ybaf.isAgg5
  z5 := Ybaf.sizeOf5
  v5 := Ybaf.zeroValue5
  i5 := by kernel_rfl
  t22 := Ybaf.underlying24
  a22 := Ybaf.isAgg24
  z22 := Ybaf.sizeOf24
  v22 := Ybaf.zeroValue24
  i22 := by kernel_rfl
  t33 := Ybaf.underlying36
  a33 := Ybaf.isAgg36
  z33 := Ybaf.sizeOf36
  v33 := Ybaf.zeroValue36
  i33 := by kernel_rfl
  t45 := Ybaf.underlying63
  a45 := Ybaf.isAgg63
  z45 := Ybaf.sizeOf63
  v45 := Ybaf.zeroValue63
  i45 := by kernel_rfl }
open Go.RowKit in
theorem Ybaf.binary_AppendUvarint (B n x : Nat) (hx : x < 18446744073709551616) (sv : Value) (xs : List Value) (w : World) (hown : w.ownsRow B 5 1 sv n xs) (hBw : B ≤ w.heap.size) (hlim : n + 10 ≤ 140737488355328) :
    Calls Ybaf.prog 13 #[sv, .int .u64 x] w fun e w' => ∃ v', e = .returned v' ∧ w'.ownsRow B 5 1 v' (n + (Lib.uvarint x).length) (xs ++ Lib.byteCells (Lib.uvarint x)) ∧ Below B w w' := Any.binary_AppendUvarint Ybaf.laysBin47 B n x hx sv xs w hown hBw hlim
def Ybaf.laysnb115_ren : Go.Shelf.Ren := ⟨fun | 115 => 11 | n => n, fun | 37 => 24 | 4 => 4 | 9 => 9 | 5 => 5 | n => n, fun | n => n⟩
theorem Ybaf.laysnb115 : Go.Proofs.Lays.nb115 Ybaf.prog Ybaf.laysnb115_ren := {
  mixed := by kernel_rfl
  f115 := Ybaf.func11.trans (congrArg some (by kernel_rfl))
  t4 := Ybaf.underlying4
  a4 := Ybaf.isAgg4
  z4 := Ybaf.sizeOf4
  v4 := Ybaf.zeroValue4
  t9 := Ybaf.underlying9
  a9 := Ybaf.isAgg9
  z9 := Ybaf.sizeOf9
  v9 := Ybaf.zeroValue9
  t37 := Ybaf.underlying24
  a37 := Ybaf.isAgg24
  z37 := Ybaf.sizeOf24
  v37 := Ybaf.zeroValue24
  t5 := Ybaf.underlying5
  a5 := Ybaf.isAgg5
  z5 := Ybaf.sizeOf5
  v5 := Ybaf.zeroValue5 }
theorem Ybaf.bytes_Equal_all (p1 p2 : Option Addr) (n c m d : Nat) (xs ys : List Int) (w : World) (hx : xs.length = n) (hy : ys.length = m) (h1 : Lib.BytesIn w p1 n xs) (h2 : Lib.BytesIn w p2 m ys) :
    Calls Ybaf.prog 11 #[.slice p1 n c, .slice p2 m d] w fun e w' => e = .returned (.bool (Lib.bytesOf xs == Lib.bytesOf ys)) ∧ w' = w := Any.bytes_Equal_all Ybaf.laysnb115 p1 p2 n c m d xs ys w hx hy h1 h2
def Ybaf.grow27_ren : Go.Shelf.Ren := ⟨fun | 4 => 27 | n => n, fun | 22 => 22 | 25 => 36 | 3 => 3 | 4 => 4 | 9 => 9 | 20 => 20 | 0 => 0 | n => n, fun | n => n⟩
theorem Ybaf.grow27 : Go.Proofs.Lays8.n4 Ybaf.prog Ybaf.grow27_ren := {
  mixed := by kernel_rfl
  f4 := ⟨Ybaf.f27.name, by decide, Ybaf.func27.trans (congrArg some (by kernel_rfl))⟩
  t0 := Ybaf.underlying0
  a0 := Ybaf.isAgg0
  z0 := Ybaf.sizeOf0
  v0 := Ybaf.zeroValue0
  t3 := Ybaf.underlying3
  a3 := Ybaf.isAgg3
  z3 := Ybaf.sizeOf3
  v3 := Ybaf.zeroValue3
  t4 := Ybaf.underlying4
  a4 := Ybaf.isAgg4
  z4 := Ybaf.sizeOf4
  v4 := Ybaf.zeroValue4
  t9 := Ybaf.underlying9
  a9 := Ybaf.isAgg9
  z9 := Ybaf.sizeOf9
  v9 := Ybaf.zeroValue9
  t20 := Ybaf.underlying20
  a20 := Ybaf.isAgg20
  z20 := Ybaf.sizeOf20
  v20 := Ybaf.zeroValue20
  t22 := Ybaf.underlying22
  a22 := Ybaf.isAgg22
  z22 := Ybaf.sizeOf22
  v22 := Ybaf.zeroValue22 }
end Go.Proofs
