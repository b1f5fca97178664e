/-
  Qxb6613198aDoorShelf: the contracts of binary.Uvarint and bits.TrailingZeros64 off the guide's shelf, laid at this dump by the kit's own tool.
-/
import Derived.Ground.MnProg
import Derived.Shelf.Bin.Uvarint
import Derived.Shelf.Bin.UvarintEmpty
import Derived.Shelf.Spec.TrailingZeros
import Derived.Test.Qxb6613198aDoorProg
namespace Go.Proofs
open Go.Shelf
def Tryd.laysBin45_ren : Go.Shelf.Ren := ⟨fun | 45 => 29 | n => n, fun | 22 => 25 | 33 => 34 | 3 => 3 | 45 => 37 | 0 => 0 | 5 => 5 | 4 => 4 | n => n, fun | n => n⟩
theorem Tryd.laysBin45 : Go.Proofs.LaysBin.n45 Tryd.prog Tryd.laysBin45_ren := {
  mixed := by kernel_rfl
  f45 := Tryd.func29.trans (congrArg some (by kernel_rfl))
  t0 := Tryd.underlying0
  a0 := Tryd.isAgg0
  z0 := Tryd.sizeOf0
  v0 := Tryd.zeroValue0
  i0 := by kernel_rfl
  t3 := Tryd.underlying3
  a3 := Tryd.isAgg3
  z3 := Tryd.sizeOf3
  v3 := Tryd.zeroValue3
  i3 := by kernel_rfl
  t4 := Tryd.underlying4
  a4 := Tryd.isAgg4
  z4 := Tryd.sizeOf4
  v4 := Tryd.zeroValue4
  i4 := by kernel_rfl
  t5 := Tryd.underlying5
  a5 := Tryd.isAgg5
  z5 := Tryd.sizeOf5
  v5 := Tryd.zeroValue5
  i5 := by kernel_rfl
  t22 := Tryd.underlying25
  a22 := Tryd.isAgg25
  z22 := Tryd.sizeOf25
  v22 := Tryd.zeroValue25
  i22 := by kernel_rfl
  t33 := Tryd.underlying34
  a33 := Tryd.isAgg34
  z33 := Tryd.sizeOf34
  v33 := Tryd.zeroValue34
  i33 := by kernel_rfl
  t45 := Tryd.underlying37
  a45 := Tryd.isAgg37
  z45 := Tryd.sizeOf37
  v45 := Tryd.zeroValue37
  i45 := by kernel_rfl }
open Go.RowKit in
/-- binary.Uvarint: "Uvarint decodes a uint64 from buf and returns that value and the number of bytes read (> 0). If an error occurred, the value is 0 and the number of bytes n is <= 0 meaning: n == 0: buf too small; n < 0: value larger than 64 bits (overflow) and -n is the number of bytes read.": 'Lib.uvarintDec' OF buf's BYTES, both results. The world is as it was. (LAID: no walk: one application.) -/
theorem Tryd.binary_Uvarint (g o n c : Nat) (l : List UInt8) (w : World) (hl : l.length = n) (hcell : ∀ j (hj : j < l.length), w.cell? ⟨g, o + j, none⟩ = some (.int .u8 (l[j]).toNat)) :
    Calls Tryd.prog 29 #[.slice (some ⟨g, o, none⟩) n c] w fun e w' => e = .returned (.tuple #[.int .u64 (Lib.uvarintDec l).1, .int .i64 (Lib.uvarintDec l).2]) ∧ w' = w := Any.binary_Uvarint Tryd.laysBin45 g o n c l w hl hcell
open Go.RowKit in
/-- binary.Uvarint AT A SLICE WITHOUT ELEMENTS, nil too: (0, 0): "buf too small": 'Lib.uvarintDec []'. The world is as it was. (LAID: no walk: one application.) -/
theorem Tryd.binary_Uvarint_empty (ao : Option Addr) (c : Nat) (w : World) :
    Calls Tryd.prog 29 #[.slice ao 0 c] w fun e w' => e = .returned (.tuple #[.int .u64 (Lib.uvarintDec []).1, .int .i64 (Lib.uvarintDec []).2]) ∧ w' = w := Any.binary_Uvarint_empty Tryd.laysBin45 ao c w
def Tryd.lays29_ren : Go.Shelf.Ren := ⟨fun | 29 => 27 | n => n, fun | 22 => 34 | 3 => 3 | 4 => 4 | 25 => 37 | 54 => 78 | 0 => 0 | 5 => 5 | n => n, fun | 1 => 0 | n => n⟩
theorem Tryd.lays29 : Go.Proofs.Lays7.n29 Tryd.prog Tryd.lays29_ren := {
  mixed := by kernel_rfl
  f29 := Tryd.func27.trans (congrArg some (by kernel_rfl))
  t0 := Tryd.underlying0
  a0 := Tryd.isAgg0
  z0 := Tryd.sizeOf0
  v0 := Tryd.zeroValue0
  i0 := by kernel_rfl
  t3 := Tryd.underlying3
  a3 := Tryd.isAgg3
  z3 := Tryd.sizeOf3
  v3 := Tryd.zeroValue3
  i3 := by kernel_rfl
  t4 := Tryd.underlying4
  a4 := Tryd.isAgg4
  z4 := Tryd.sizeOf4
  v4 := Tryd.zeroValue4
  i4 := by kernel_rfl
  t5 := Tryd.underlying5
  a5 := Tryd.isAgg5
  z5 := Tryd.sizeOf5
  v5 := Tryd.zeroValue5
  i5 := by kernel_rfl
  t22 := Tryd.underlying34
  a22 := Tryd.isAgg34
  z22 := Tryd.sizeOf34
  v22 := Tryd.zeroValue34
  i22 := by kernel_rfl
  t25 := Tryd.underlying37
  a25 := Tryd.isAgg37
  z25 := Tryd.sizeOf37
  v25 := Tryd.zeroValue37
  i25 := by kernel_rfl
  t54 := Tryd.underlying78
  a54 := Tryd.isAgg78
  z54 := Tryd.sizeOf78
  g1 := by kernel_rfl }
end Go.Proofs
