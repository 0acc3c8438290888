/- Uint16 and Uint64 of a header, with the world behind. -/
import Derived.Test.YbulkbuhsParse0
import Derived.Shelf.Bin.BEUint64
namespace Go.Proofs.Ybulkbuhs
open Go.RowKit
theorem cell_d {w : World} {p : Addr} {v : Value} (h : w.cell? p = some v) (x : Obj) : (w.alloc x).drew.cell? p = some v := cell_a1 h x
set_option maxHeartbeats 1000000 in
set_option maxRecDepth 100000 in
/-- Uint16 of a number's two bytes: the number, and the world. -/
theorem u16_at (v : Nat) (hv : v < 65536) (g o n c : Nat) (w : World) (hn : 2 ≤ n) (c0 : w.cell? ⟨g, o, none⟩ = some (.int .u8 ((v : Int) / 256 % 256))) (c1 : w.cell? ⟨g, o + 1, none⟩ = some (.int .u8 ((v : Int) % 256))) :
    Calls Yba.prog 10 #[.agg #[], .slice (some ⟨g, o, none⟩) n c] w fun e w' => e = .returned (.int .u16 v) ∧ w' = (w.alloc (.cells #[] 38)).drew := by
  have d0 := cell_a1 c0
  have d1 := cell_a1 c1
  have e0 := cell_d c0
  have e1 := cell_d c1
  generalize hx : (v : Int) / 256 % 256 = x at *
  generalize hy : (v : Int) % 256 = y at *
  have hv : (v : Int) = y + x * 256 := by omega
  have hx0 : 0 ≤ x := by omega
  have hx1 : x < 256 := by omega
  have hy0 : 0 ≤ y := by omega
  have hy1 : y < 256 := by omega
  go_enter Yba.func10, Yba.ntmps10
  go_wp2_with fail
  go_region
  go_wp2
  go_ret
  refine ⟨?_, rfl⟩
  show Ending.returned (Value.int .u16 (bits .or .u16 y (x * 256))) = _
  simp (disch := omega) only [u16_or8]
  rw [hv]

set_option maxHeartbeats 1000000 in
set_option maxRecDepth 100000 in
theorem u64_at (v : Nat) (hv : v < 18446744073709551616) (g o n c : Nat) (w : World) (hn : 8 ≤ n) (c0 : w.cell? ⟨g, o, none⟩ = some (.int .u8 ((v : Int) / 72057594037927936 % 256))) (c1 : w.cell? ⟨g, o + 1, none⟩ = some (.int .u8 ((v : Int) / 281474976710656 % 256))) (c2 : w.cell? ⟨g, o + 2, none⟩ = some (.int .u8 ((v : Int) / 1099511627776 % 256))) (c3 : w.cell? ⟨g, o + 3, none⟩ = some (.int .u8 ((v : Int) / 4294967296 % 256))) (c4 : w.cell? ⟨g, o + 4, none⟩ = some (.int .u8 ((v : Int) / 16777216 % 256))) (c5 : w.cell? ⟨g, o + 5, none⟩ = some (.int .u8 ((v : Int) / 65536 % 256))) (c6 : w.cell? ⟨g, o + 6, none⟩ = some (.int .u8 ((v : Int) / 256 % 256))) (c7 : w.cell? ⟨g, o + 7, none⟩ = some (.int .u8 ((v : Int) % 256))) :
    Calls Yba.prog 11 #[.agg #[], .slice (some ⟨g, o, none⟩) n c] w fun e w' => ∃ q, e = .returned (.int .u64 v) ∧ w' = (w.alloc (.cells #[] 38)).drewN q := by
  have d0 := cell_a1 c0
  have d1 := cell_a1 c1
  have d2 := cell_a1 c2
  have d3 := cell_a1 c3
  have d4 := cell_a1 c4
  have d5 := cell_a1 c5
  have d6 := cell_a1 c6
  have d7 := cell_a1 c7
  generalize hx0 : (v : Int) / 72057594037927936 % 256 = x0 at *
  generalize hx1 : (v : Int) / 281474976710656 % 256 = x1 at *
  generalize hx2 : (v : Int) / 1099511627776 % 256 = x2 at *
  generalize hx3 : (v : Int) / 4294967296 % 256 = x3 at *
  generalize hx4 : (v : Int) / 16777216 % 256 = x4 at *
  generalize hx5 : (v : Int) / 65536 % 256 = x5 at *
  generalize hx6 : (v : Int) / 256 % 256 = x6 at *
  generalize hx7 : (v : Int) % 256 = x7 at *
  have q0 : 0 < n := by omega
  have q1 : (1 : Int) < (n : Int) := by omega
  have q2 : (2 : Int) < (n : Int) := by omega
  have q3 : (3 : Int) < (n : Int) := by omega
  have q4 : (4 : Int) < (n : Int) := by omega
  have q5 : (5 : Int) < (n : Int) := by omega
  have q6 : (6 : Int) < (n : Int) := by omega
  have q7 : (7 : Int) < (n : Int) := by omega
  have mixed : Yba.prog.follows Departure.mixedOrders = true := by kernel_rfl
  go_enter Yba.func11, Yba.ntmps11
  go_wp2
  go_quiet_o (fail)
  go_wp2
  go_ret
  refine ⟨nq, ?_, rfl⟩
  have hv2 : (v : Int) = x7 + x6 * 256 + x5 * 65536 + x4 * 16777216 + x3 * 4294967296 + x2 * 1099511627776 + x1 * 281474976710656 + x0 * 72057594037927936 := by omega
  have b0 : 0 ≤ x0 ∧ x0 < 256 := by omega
  have b1 : 0 ≤ x1 ∧ x1 < 256 := by omega
  have b2 : 0 ≤ x2 ∧ x2 < 256 := by omega
  have b3 : 0 ≤ x3 ∧ x3 < 256 := by omega
  have b4 : 0 ≤ x4 ∧ x4 < 256 := by omega
  have b5 : 0 ≤ x5 ∧ x5 < 256 := by omega
  have b6 : 0 ≤ x6 ∧ x6 < 256 := by omega
  have b7 : 0 ≤ x7 ∧ x7 < 256 := by omega
  clear hx0 hx1 hx2 hx3 hx4 hx5 hx6 hx7
  simp (disch := omega) only [u64_wrap_id, u64_or8, u64_or16, u64_or24, u64_or32, u64_or40, u64_or48, u64_or56]
  rw [hv2]
  rfl

@[go_sem] theorem setCell_drewN (w : World) (n : Nat) (a : Addr) (v : Value) : (w.drewN n).setCell a v = (w.setCell a v).drewN n := rfl

theorem cell_h {w : World} (x z : Obj) (zs : Array Value) (t : TypeId) (k : Nat) (v : Value) (h : zs[k]? = some v) : (((w.alloc x).alloc (.cells zs t)).alloc z).cell? ⟨w.heap.size + 1, k, none⟩ = some v := by
  refine cell_a1 ?_ z
  simp [h]
theorem froz_h {w : World} (x1 x2 z1 : Array Value) (t1 t2 t3 : TypeId) (k : Nat) : (((w.alloc (.cells x1 t1)).alloc (.cells x2 t2)).alloc (.cells z1 t3)).frozen? ⟨w.heap.size + 1, k, none⟩ = false := by
  rw [frozen?_alloc_cells, frozen?_alloc_cells, frozen?_alloc_cells]
  simp [World.frozen?]

theorem belowN {B : Nat} {w w' : World} (h : Below B w w') (q : Nat) : Below B w (w'.drewN q) := h.trans ⟨rfl, rfl, rfl, Nat.le_refl _, fun _ _ => rfl⟩

end Go.Proofs.Ybulkbuhs
