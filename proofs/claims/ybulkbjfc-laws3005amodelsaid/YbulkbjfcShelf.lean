/-
  LAID BY THE KIT's TOOLS (lay-shelf.mjs, lay-plain.mjs) FOR THIS PROGRAM: the contract of encoding/binary.Uvarint at this dump, in plain words.
-/
import Derived.Shelf.Bin.Uvarint
import Derived.Shelf.Bin.UvarintEmpty
import Derived.Test.YbulkbjfcProg
namespace Go.Proofs
open Go.Shelf
def Yba.laysBin45_ren : Go.Shelf.Ren := ⟨fun | 45 => 30 | n => n, fun | 22 => 26 | 33 => 22 | 3 => 3 | 45 => 105 | 0 => 0 | 5 => 5 | 4 => 4 | n => n, fun | n => n⟩
theorem Yba.laysBin45 : Go.Proofs.LaysBin.n45 Yba.prog Yba.laysBin45_ren := {
  mixed := by kernel_rfl
  f45 := Yba.func30.trans (congrArg some (by kernel_rfl))
  t0 := Yba.underlying0
  a0 := Yba.isAgg0
  z0 := Yba.sizeOf0
  v0 := Yba.zeroValue0
  i0 := by kernel_rfl
  t3 := Yba.underlying3
  a3 := Yba.isAgg3
  z3 := Yba.sizeOf3
  v3 := Yba.zeroValue3
  i3 := by kernel_rfl
  t4 := Yba.underlying4
  a4 := Yba.isAgg4
  z4 := Yba.sizeOf4
  v4 := Yba.zeroValue4
  i4 := by kernel_rfl
  t5 := Yba.underlying5
  a5 := Yba.isAgg5
  z5 := Yba.sizeOf5
  v5 := Yba.zeroValue5
  i5 := by kernel_rfl
  t22 := Yba.underlying26
  a22 := Yba.isAgg26
  z22 := Yba.sizeOf26
  v22 := Yba.zeroValue26
  i22 := by kernel_rfl
  t33 := Yba.underlying22
  a33 := Yba.isAgg22
  z33 := Yba.sizeOf22
  v33 := Yba.zeroValue22
  i33 := by kernel_rfl
  t45 := Yba.underlying105
  a45 := Yba.isAgg105
  z45 := Yba.sizeOf105
  v45 := Yba.zeroValue105
  i45 := by kernel_rfl }
open Go.RowKit in
theorem Yba.binary_Uvarint (g o n c : Nat) (l : List UInt8) (w : World) (hl : l.length = n) (hcell : ∀ j (hj : j < l.length), w.cell? ⟨g, o + j, none⟩ = some (.int .u8 (l[j]).toNat)) :
    Calls Yba.prog 30 #[.slice (some ⟨g, o, none⟩) n c] w fun e w' => e = .returned (.tuple #[.int .u64 (Lib.uvarintDec l).1, .int .i64 (Lib.uvarintDec l).2]) ∧ w' = w := Any.binary_Uvarint Yba.laysBin45 g o n c l w hl hcell
open Go.RowKit in
theorem Yba.binary_Uvarint_empty (ao : Option Addr) (c : Nat) (w : World) :
    Calls Yba.prog 30 #[.slice ao 0 c] w fun e w' => e = .returned (.tuple #[.int .u64 (Lib.uvarintDec []).1, .int .i64 (Lib.uvarintDec []).2]) ∧ w' = w := Any.binary_Uvarint_empty Yba.laysBin45 ao c w
end Go.Proofs
