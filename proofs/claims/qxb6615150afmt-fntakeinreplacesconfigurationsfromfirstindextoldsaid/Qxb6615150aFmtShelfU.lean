import Derived.Ground.MnProg
import Derived.Shelf.Bin.Uvarint
import Derived.Shelf.Bin.UvarintEmpty
import Derived.Test.Qxb6615150aFmtProg
namespace Go.Proofs
open Go.Shelf
def Tryf.laysBin45_ren : Go.Shelf.Ren := ⟨fun | 45 => 59 | n => n, fun | 22 => 44 | 33 => 43 | 3 => 3 | 45 => 106 | 0 => 0 | 5 => 5 | 4 => 4 | n => n, fun | n => n⟩
theorem Tryf.laysBin45 : Go.Proofs.LaysBin.n45 Tryf.prog Tryf.laysBin45_ren := {
  mixed := by kernel_rfl
  f45 := Tryf.func59.trans (congrArg some (by kernel_rfl))
  t0 := Tryf.underlying0
  a0 := Tryf.isAgg0
  z0 := Tryf.sizeOf0
  v0 := Tryf.zeroValue0
  i0 := by kernel_rfl
  t3 := Tryf.underlying3
  a3 := Tryf.isAgg3
  z3 := Tryf.sizeOf3
  v3 := Tryf.zeroValue3
  i3 := by kernel_rfl
  t4 := Tryf.underlying4
  a4 := Tryf.isAgg4
  z4 := Tryf.sizeOf4
  v4 := Tryf.zeroValue4
  i4 := by kernel_rfl
  t5 := Tryf.underlying5
  a5 := Tryf.isAgg5
  z5 := Tryf.sizeOf5
  v5 := Tryf.zeroValue5
  i5 := by kernel_rfl
  t22 := Tryf.underlying44
  a22 := Tryf.isAgg44
  z22 := Tryf.sizeOf44
  v22 := Tryf.zeroValue44
  i22 := by kernel_rfl
  t33 := Tryf.underlying43
  a33 := Tryf.isAgg43
  z33 := Tryf.sizeOf43
  v33 := Tryf.zeroValue43
  i33 := by kernel_rfl
  t45 := Tryf.underlying106
  a45 := Tryf.isAgg106
  z45 := Tryf.sizeOf106
  v45 := Tryf.zeroValue106
  i45 := by kernel_rfl }
open Go.RowKit in
/-- binary.Uvarint: "Uvarint decodes a uint64 from buf and returns that value and the number of bytes read (> 0). If an error occurred, the value is 0 and the number of bytes n is <= 0 meaning: n == 0: buf too small; n < 0: value larger than 64 bits (overflow) and -n is the number of bytes read.": 'Lib.uvarintDec' OF buf's BYTES, both results. The world is as it was. (LAID: no walk: one application.) -/
theorem Tryf.binary_Uvarint (g o n c : Nat) (l : List UInt8) (w : World) (hl : l.length = n) (hcell : ∀ j (hj : j < l.length), w.cell? ⟨g, o + j, none⟩ = some (.int .u8 (l[j]).toNat)) :
    Calls Tryf.prog 59 #[.slice (some ⟨g, o, none⟩) n c] w fun e w' => e = .returned (.tuple #[.int .u64 (Lib.uvarintDec l).1, .int .i64 (Lib.uvarintDec l).2]) ∧ w' = w := Any.binary_Uvarint Tryf.laysBin45 g o n c l w hl hcell
open Go.RowKit in
/-- binary.Uvarint AT A SLICE WITHOUT ELEMENTS, nil too: (0, 0): "buf too small": 'Lib.uvarintDec []'. The world is as it was. (LAID: no walk: one application.) -/
theorem Tryf.binary_Uvarint_empty (ao : Option Addr) (c : Nat) (w : World) :
    Calls Tryf.prog 59 #[.slice ao 0 c] w fun e w' => e = .returned (.tuple #[.int .u64 (Lib.uvarintDec []).1, .int .i64 (Lib.uvarintDec []).2]) ∧ w' = w := Any.binary_Uvarint_empty Tryf.laysBin45 ao c w
end Go.Proofs
