/- The shelf's contracts for encoding/binary.Uvarint and slices.Equal, laid at this dump by the kit's tools, in plain words. -/
import Derived.Ground.MnProg
import Derived.Shelf.Bin.Uvarint
import Derived.Shelf.Bin.UvarintEmpty
import Derived.Shelf.Slices.Equal
import Derived.Shelf.Slices.Empties2
import Derived.Test.YbulkbudkProg
namespace Go.Proofs
open Go.Shelf
def Yba.laysBin45_ren : Go.Shelf.Ren := ⟨fun | 45 => 14 | n => n, fun | 22 => 41 | 33 => 40 | 3 => 3 | 45 => 53 | 0 => 0 | 5 => 5 | 4 => 4 | n => n, fun | n => n⟩
theorem Yba.laysBin45 : Go.Proofs.LaysBin.n45 Yba.prog Yba.laysBin45_ren := {
  mixed := by kernel_rfl
  f45 := Yba.func14.trans (congrArg some (by kernel_rfl))
  t0 := Yba.underlying0
  a0 := Yba.isAgg0
  z0 := Yba.sizeOf0
  v0 := Yba.zeroValue0
  i0 := by kernel_rfl
  t3 := Yba.underlying3
  a3 := Yba.isAgg3
  z3 := Yba.sizeOf3
  v3 := Yba.zeroValue3
  i3 := by kernel_rfl
  t4 := Yba.underlying4
  a4 := Yba.isAgg4
  z4 := Yba.sizeOf4
  v4 := Yba.zeroValue4
  i4 := by kernel_rfl
  t5 := Yba.underlying5
  a5 := Yba.isAgg5
  z5 := Yba.sizeOf5
  v5 := Yba.zeroValue5
  i5 := by kernel_rfl
  t22 := Yba.underlying41
  a22 := Yba.isAgg41
  z22 := Yba.sizeOf41
  v22 := Yba.zeroValue41
  i22 := by kernel_rfl
  t33 := Yba.underlying40
  a33 := Yba.isAgg40
  z33 := Yba.sizeOf40
  v33 := Yba.zeroValue40
  i33 := by kernel_rfl
  t45 := Yba.underlying53
  a45 := Yba.isAgg53
  z45 := Yba.sizeOf53
  v45 := Yba.zeroValue53
  i45 := by kernel_rfl }
open Go.RowKit in
theorem Yba.binary_Uvarint (g o n c : Nat) (l : List UInt8) (w : World) (hl : l.length = n) (hcell : ∀ j (hj : j < l.length), w.cell? ⟨g, o + j, none⟩ = some (.int .u8 (l[j]).toNat)) :
    Calls Yba.prog 14 #[.slice (some ⟨g, o, none⟩) n c] w fun e w' => e = .returned (.tuple #[.int .u64 (Lib.uvarintDec l).1, .int .i64 (Lib.uvarintDec l).2]) ∧ w' = w := Any.binary_Uvarint Yba.laysBin45 g o n c l w hl hcell
open Go.RowKit in
theorem Yba.binary_Uvarint_empty (ao : Option Addr) (c : Nat) (w : World) :
    Calls Yba.prog 14 #[.slice ao 0 c] w fun e w' => e = .returned (.tuple #[.int .u64 (Lib.uvarintDec []).1, .int .i64 (Lib.uvarintDec []).2]) ∧ w' = w := Any.binary_Uvarint_empty Yba.laysBin45 ao c w
def Yba.lays193_ren : Go.Shelf.Ren := ⟨fun | 193 => 9 | n => n, fun | 31 => 30 | 9 => 9 | 4 => 4 | 3 => 3 | 0 => 0 | n => n, fun | n => n⟩
theorem Yba.lays193 : Go.Proofs.Lays.n193 Yba.prog Yba.lays193_ren := {
  mixed := by kernel_rfl
  f193 := Yba.func9.trans (congrArg some (by kernel_rfl))
  t0 := Yba.underlying0
  a0 := Yba.isAgg0
  z0 := Yba.sizeOf0
  v0 := Yba.zeroValue0
  t3 := Yba.underlying3
  a3 := Yba.isAgg3
  z3 := Yba.sizeOf3
  v3 := Yba.zeroValue3
  t4 := Yba.underlying4
  a4 := Yba.isAgg4
  z4 := Yba.sizeOf4
  v4 := Yba.zeroValue4
  t9 := Yba.underlying9
  a9 := Yba.isAgg9
  z9 := Yba.sizeOf9
  v9 := Yba.zeroValue9
  t31 := Yba.underlying30
  a31 := Yba.isAgg30
  z31 := Yba.sizeOf30
  v31 := Yba.zeroValue30 }
open Go.RowKit Go.Lib in
theorem Yba.slices_Equal_string (b1 o1 n c b2 o2 m d : Nat) (xs ys : List ByteArray) (w : World) (hx : n ≤ xs.length) (hy : m ≤ ys.length) (hbig : n ≤ 9223372036854775807) (hbig2 : m ≤ 9223372036854775807) (hc1 : ∀ j, j < xs.length → w.cell? ⟨b1, o1 + j, none⟩ = some (.string (xs.getD j ByteArray.empty))) (hc2 : ∀ j, j < ys.length → w.cell? ⟨b2, o2 + j, none⟩ = some (.string (ys.getD j ByteArray.empty))) :
    Calls Yba.prog 9 #[.slice (some ⟨b1, o1, none⟩) n c, .slice (some ⟨b2, o2, none⟩) m d] w fun e w' => e = .returned (.bool (decide (xs.take n = ys.take m))) ∧ ∃ q, w' = w.drewN q := Any.slices_Equal_string Yba.lays193 b1 o1 n c b2 o2 m d xs ys w hx hy hbig hbig2 hc1 hc2
open Go.RowKit Go.Lib in
theorem Yba.slices_Equal_string_empty (a1 a2 : Option Addr) (c m d : Nat) (w : World) (hbig2 : m ≤ 9223372036854775807) :
    Calls Yba.prog 9 #[.slice a1 0 c, .slice a2 m d] w fun e w' => e = .returned (.bool (decide (m = 0))) ∧ w' = w := Any.slices_Equal_string_empty Yba.lays193 a1 a2 c m d w hbig2
open Go.RowKit Go.Lib in
theorem Yba.slices_Equal_string_lens (a1 a2 : Option Addr) (n c m d : Nat) (w : World) (hnm : n ≠ m) :
    Calls Yba.prog 9 #[.slice a1 n c, .slice a2 m d] w fun e w' => e = .returned (.bool false) ∧ w' = w := Any.slices_Equal_string_lens Yba.lays193 a1 a2 n c m d w hnm
end Go.Proofs
