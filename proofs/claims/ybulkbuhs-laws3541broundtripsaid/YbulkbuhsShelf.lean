/- The shelf's contracts for the big-endian readers and appenders of encoding/binary, laid at this dump by the kit's tools, in plain words. -/
import Derived.Ground.MnProg
import Derived.Shelf.Bin.BEUint16
import Derived.Shelf.Bin.BEAppendUint16
import Derived.Shelf.Bin.BEUint64
import Derived.Shelf.Bin.BEAppendUint64
import Derived.Shelf.Bin.BEAppendUint16Arg
import Derived.Shelf.Bin.BEAppendUint64Arg
import Derived.Shelf.Bin.ReadersZ
import Derived.Test.YbulkbuhsProg
namespace Go.Proofs
open Go.Shelf
def Yba.laysBin36_ren : Go.Shelf.Ren := ⟨fun | 36 => 10 | n => n, fun | 37 => 38 | 22 => 22 | 23 => 40 | 0 => 0 | 5 => 5 | 45 => 28 | n => n, fun | n => n⟩
theorem Yba.laysBin36 : Go.Proofs.LaysBin.n36 Yba.prog Yba.laysBin36_ren := {
  mixed := by kernel_rfl
  f36 := Yba.func10.trans (congrArg some (by kernel_rfl))
  t0 := Yba.underlying0
  a0 := Yba.isAgg0
  z0 := Yba.sizeOf0
  v0 := Yba.zeroValue0
  i0 := by kernel_rfl
  t5 := Yba.underlying5
  a5 := Yba.isAgg5
  z5 := Yba.sizeOf5
  v5 := Yba.zeroValue5
  i5 := by kernel_rfl
  t22 := Yba.underlying22
  a22 := Yba.isAgg22
  z22 := Yba.sizeOf22
  v22 := Yba.zeroValue22
  i22 := by kernel_rfl
  t23 := Yba.underlying40
  a23 := Yba.isAgg40
  z23 := Yba.sizeOf40
  v23 := Yba.zeroValue40
  i23 := by kernel_rfl
  t37 := Yba.underlying38
  a37 := Yba.isAgg38
  z37 := Yba.sizeOf38
  v37 := Yba.zeroValue38
  i37 := by kernel_rfl
  t45 := Yba.underlying28
  a45 := Yba.isAgg28
  z45 := Yba.sizeOf28
  v45 := Yba.zeroValue28
  i45 := by kernel_rfl }
open Go.RowKit in
theorem Yba.binary_BE_Uint16 (g o n c : Nat) (b0 b1 : UInt8) (w : World) (hn : 2 ≤ n) (c0 : w.cell? ⟨g, o, none⟩ = some (.int .u8 b0.toNat)) (c1 : w.cell? ⟨g, o + 1, none⟩ = some (.int .u8 b1.toNat)) :
    Calls Yba.prog 10 #[.agg #[], .slice (some ⟨g, o, none⟩) n c] w fun e w' => e = .returned (.int .u16 (Lib.beNat [b0, b1])) ∧ Below w.heap.size w w' := Any.binary_BE_Uint16 Yba.laysBin36 g o n c b0 b1 w hn c0 c1
def Yba.laysBin38_ren : Go.Shelf.Ren := ⟨fun | 38 => 8 | n => n, fun | 37 => 38 | 22 => 22 | 23 => 40 | 0 => 0 | 45 => 28 | 5 => 5 | n => n, fun | n => n⟩
theorem Yba.laysBin38 : Go.Proofs.LaysBin.n38 Yba.prog Yba.laysBin38_ren := {
  mixed := by kernel_rfl
  f38 := Yba.func8.trans (congrArg some (by kernel_rfl))
  t0 := Yba.underlying0
  a0 := Yba.isAgg0
  z0 := Yba.sizeOf0
  v0 := Yba.zeroValue0
  i0 := by kernel_rfl
  t5 := Yba.underlying5
  a5 := Yba.isAgg5
  z5 := Yba.sizeOf5
  v5 := Yba.zeroValue5
  i5 := by kernel_rfl
  t22 := Yba.underlying22
  a22 := Yba.isAgg22
  z22 := Yba.sizeOf22
  v22 := Yba.zeroValue22
  i22 := by kernel_rfl
  t23 := Yba.underlying40
  a23 := Yba.isAgg40
  z23 := Yba.sizeOf40
  v23 := Yba.zeroValue40
  i23 := by kernel_rfl
  t37 := Yba.underlying38
  a37 := Yba.isAgg38
  z37 := Yba.sizeOf38
  v37 := Yba.zeroValue38
  i37 := by kernel_rfl
  t45 := Yba.underlying28
  a45 := Yba.isAgg28
  z45 := Yba.sizeOf28
  v45 := Yba.zeroValue28
  i45 := by kernel_rfl }
open Go.RowKit in
theorem Yba.binary_BE_AppendUint16 (B n v : Nat) (hv : v < 65536) (sv : Value) (xs : List Value) (w : World) (hown : w.ownsRow B 5 1 sv n xs) (hBw : B ≤ w.heap.size) (hlim : n + 2 ≤ 140737488355328) :
    Calls Yba.prog 8 #[.agg #[], sv, .int .u16 v] w fun e w' => ∃ v', e = .returned v' ∧ w'.ownsRow B 5 1 v' (n + 2) (xs ++ Lib.byteCells (Lib.beBytes 2 v)) ∧ Below B w w' := Any.binary_BE_AppendUint16 Yba.laysBin38 B n v hv sv xs w hown hBw hlim
def Yba.laysBin42_ren : Go.Shelf.Ren := ⟨fun | 42 => 11 | n => n, fun | 37 => 38 | 22 => 22 | 33 => 29 | 0 => 0 | 5 => 5 | 45 => 28 | n => n, fun | n => n⟩
theorem Yba.laysBin42 : Go.Proofs.LaysBin.n42 Yba.prog Yba.laysBin42_ren := {
  mixed := by kernel_rfl
  f42 := Yba.func11.trans (congrArg some (by kernel_rfl))
  t0 := Yba.underlying0
  a0 := Yba.isAgg0
  z0 := Yba.sizeOf0
  v0 := Yba.zeroValue0
  i0 := by kernel_rfl
  t5 := Yba.underlying5
  a5 := Yba.isAgg5
  z5 := Yba.sizeOf5
  v5 := Yba.zeroValue5
  i5 := by kernel_rfl
  t22 := Yba.underlying22
  a22 := Yba.isAgg22
  z22 := Yba.sizeOf22
  v22 := Yba.zeroValue22
  i22 := by kernel_rfl
  t33 := Yba.underlying29
  a33 := Yba.isAgg29
  z33 := Yba.sizeOf29
  v33 := Yba.zeroValue29
  i33 := by kernel_rfl
  t37 := Yba.underlying38
  a37 := Yba.isAgg38
  z37 := Yba.sizeOf38
  v37 := Yba.zeroValue38
  i37 := by kernel_rfl
  t45 := Yba.underlying28
  a45 := Yba.isAgg28
  z45 := Yba.sizeOf28
  v45 := Yba.zeroValue28
  i45 := by kernel_rfl }
open Go.RowKit in
theorem Yba.binary_BE_Uint64 (g o n c : Nat) (b0 b1 b2 b3 b4 b5 b6 b7 : UInt8) (w : World) (hn : 8 ≤ n) (c0 : w.cell? ⟨g, o, none⟩ = some (.int .u8 b0.toNat)) (c1 : w.cell? ⟨g, o + 1, none⟩ = some (.int .u8 b1.toNat)) (c2 : w.cell? ⟨g, o + 2, none⟩ = some (.int .u8 b2.toNat)) (c3 : w.cell? ⟨g, o + 3, none⟩ = some (.int .u8 b3.toNat)) (c4 : w.cell? ⟨g, o + 4, none⟩ = some (.int .u8 b4.toNat)) (c5 : w.cell? ⟨g, o + 5, none⟩ = some (.int .u8 b5.toNat)) (c6 : w.cell? ⟨g, o + 6, none⟩ = some (.int .u8 b6.toNat)) (c7 : w.cell? ⟨g, o + 7, none⟩ = some (.int .u8 b7.toNat)) :
    Calls Yba.prog 11 #[.agg #[], .slice (some ⟨g, o, none⟩) n c] w fun e w' => e = .returned (.int .u64 (Lib.beNat [b0, b1, b2, b3, b4, b5, b6, b7])) ∧ Below w.heap.size w w' := Any.binary_BE_Uint64 Yba.laysBin42 g o n c b0 b1 b2 b3 b4 b5 b6 b7 w hn c0 c1 c2 c3 c4 c5 c6 c7
def Yba.laysBin44_ren : Go.Shelf.Ren := ⟨fun | 44 => 9 | n => n, fun | 37 => 38 | 22 => 22 | 33 => 29 | 0 => 0 | 45 => 28 | 5 => 5 | n => n, fun | n => n⟩
theorem Yba.laysBin44 : Go.Proofs.LaysBin.n44 Yba.prog Yba.laysBin44_ren := {
  mixed := by kernel_rfl
  f44 := Yba.func9.trans (congrArg some (by kernel_rfl))
  t0 := Yba.underlying0
  a0 := Yba.isAgg0
  z0 := Yba.sizeOf0
  v0 := Yba.zeroValue0
  i0 := by kernel_rfl
  t5 := Yba.underlying5
  a5 := Yba.isAgg5
  z5 := Yba.sizeOf5
  v5 := Yba.zeroValue5
  i5 := by kernel_rfl
  t22 := Yba.underlying22
  a22 := Yba.isAgg22
  z22 := Yba.sizeOf22
  v22 := Yba.zeroValue22
  i22 := by kernel_rfl
  t33 := Yba.underlying29
  a33 := Yba.isAgg29
  z33 := Yba.sizeOf29
  v33 := Yba.zeroValue29
  i33 := by kernel_rfl
  t37 := Yba.underlying38
  a37 := Yba.isAgg38
  z37 := Yba.sizeOf38
  v37 := Yba.zeroValue38
  i37 := by kernel_rfl
  t45 := Yba.underlying28
  a45 := Yba.isAgg28
  z45 := Yba.sizeOf28
  v45 := Yba.zeroValue28
  i45 := by kernel_rfl }
open Go.RowKit in
theorem Yba.binary_BE_AppendUint64 (B n v : Nat) (hv : v < 18446744073709551616) (sv : Value) (xs : List Value) (w : World) (hown : w.ownsRow B 5 1 sv n xs) (hBw : B ≤ w.heap.size) (hlim : n + 8 ≤ 140737488355328) :
    Calls Yba.prog 9 #[.agg #[], sv, .int .u64 v] w fun e w' => ∃ v', e = .returned v' ∧ w'.ownsRow B 5 1 v' (n + 8) (xs ++ Lib.byteCells (Lib.beBytes 8 v)) ∧ Below B w w' := Any.binary_BE_AppendUint64 Yba.laysBin44 B n v hv sv xs w hown hBw hlim
open Go.RowKit in
theorem Yba.binary_BE_AppendUint16_arg (g o n cap v : Nat) (hv : v < 65536) (olds : List Value) (w : World) (hlo : olds.length = n) (holds : ∀ j u, olds[j]? = some u → w.cell? ⟨g, o + j, none⟩ = some u) (hspare : n + 2 ≤ cap → ∀ j, j < 2 → (w.cell? ⟨g, o + n + j, none⟩).isSome = true ∧ w.frozen? ⟨g, o + n + j, none⟩ = false) (hlim : n + 2 ≤ 140737488355328) :
    Calls Yba.prog 8 #[.agg #[], .slice (some ⟨g, o, none⟩) n cap, .int .u16 v] w fun e w' =>
      (n + 2 ≤ cap ∧ e = .returned (.slice (some ⟨g, o, none⟩) (n + 2) cap) ∧ w' = ((w.alloc (.cells #[] 38)).alloc (.cells (Lib.byteCells (Lib.beBytes 2 v)).toArray 5)).setCells g (o + n) (Lib.byteCells (Lib.beBytes 2 v))) ∨
      (cap < n + 2 ∧ ∃ v', e = .returned v' ∧ w'.ownsRow (w.heap.size + 2) 5 1 v' (n + 2) (olds ++ Lib.byteCells (Lib.beBytes 2 v)) ∧ Below w.heap.size w w') := Any.binary_BE_AppendUint16_arg Yba.laysBin38 g o n cap v hv olds w hlo holds hspare hlim
open Go.RowKit in
theorem Yba.binary_BE_AppendUint64_arg (g o n cap v : Nat) (hv : v < 18446744073709551616) (olds : List Value) (w : World) (hlo : olds.length = n) (holds : ∀ j u, olds[j]? = some u → w.cell? ⟨g, o + j, none⟩ = some u) (hspare : n + 8 ≤ cap → ∀ j, j < 8 → (w.cell? ⟨g, o + n + j, none⟩).isSome = true ∧ w.frozen? ⟨g, o + n + j, none⟩ = false) (hlim : n + 8 ≤ 140737488355328) :
    Calls Yba.prog 9 #[.agg #[], .slice (some ⟨g, o, none⟩) n cap, .int .u64 v] w fun e w' =>
      (n + 8 ≤ cap ∧ e = .returned (.slice (some ⟨g, o, none⟩) (n + 8) cap) ∧ w' = ((w.alloc (.cells #[] 38)).alloc (.cells (Lib.byteCells (Lib.beBytes 8 v)).toArray 5)).setCells g (o + n) (Lib.byteCells (Lib.beBytes 8 v))) ∨
      (cap < n + 8 ∧ ∃ v', e = .returned v' ∧ w'.ownsRow (w.heap.size + 2) 5 1 v' (n + 8) (olds ++ Lib.byteCells (Lib.beBytes 8 v)) ∧ Below w.heap.size w w') := Any.binary_BE_AppendUint64_arg Yba.laysBin44 g o n cap v hv olds w hlo holds hspare hlim
open Go.RowKit in
theorem Yba.binary_BE_Uint16_z (a : Addr) (n c : Nat) (zs : List Int) (w : World) (hn : 2 ≤ n) (hl : 2 ≤ zs.length) (hcell : ∀ i, i < zs.length → w.cell? (a.add i) = some (.int .u8 (zs.getD i 0))) (hw : ∀ z ∈ zs, (Lit.int .u8 z).wf = true) :
    Calls Yba.prog 10 #[.agg #[], .slice (some a) n c] w fun e w' => e = .returned (.int .u16 (Lib.beZ (zs.take 2))) ∧ Below w.heap.size w w' := Any.binary_BE_Uint16_z Yba.laysBin36 a n c zs w hn hl hcell hw
open Go.RowKit in
theorem Yba.binary_BE_Uint64_z (a : Addr) (n c : Nat) (zs : List Int) (w : World) (hn : 8 ≤ n) (hl : 8 ≤ zs.length) (hcell : ∀ i, i < zs.length → w.cell? (a.add i) = some (.int .u8 (zs.getD i 0))) (hw : ∀ z ∈ zs, (Lit.int .u8 z).wf = true) :
    Calls Yba.prog 11 #[.agg #[], .slice (some a) n c] w fun e w' => e = .returned (.int .u64 (Lib.beZ (zs.take 8))) ∧ Below w.heap.size w w' := Any.binary_BE_Uint64_z Yba.laysBin42 a n c zs w hn hl hcell hw
end Go.Proofs
