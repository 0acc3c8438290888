/- Laws for the walk of parseFrameHeader. -/
import Derived.Test.YbulkbuhsMore
import Derived.Test.YbulkbuhsBits
import Derived.BigRegion
import Derived.Deep.RegionWith
namespace Go.Proofs.Ybulkbuhs
open Go.RowKit

theorem run_copy4 (W : World) (b off g k c : Nat) (m0 m1 m2 m3 : Int) (x0 x1 x2 x3 : Value)
    (c0 : W.cell? ⟨g, k, none⟩ = some (.int .u8 m0)) (c1 : W.cell? ⟨g, k + 1, none⟩ = some (.int .u8 m1)) (c2 : W.cell? ⟨g, k + 2, none⟩ = some (.int .u8 m2)) (c3 : W.cell? ⟨g, k + 3, none⟩ = some (.int .u8 m3))
    (d0 : W.cell? ⟨b, off, none⟩ = some x0) (d1 : W.cell? ⟨b, off + 1, none⟩ = some x1) (d2 : W.cell? ⟨b, off + 2, none⟩ = some x2) (d3 : W.cell? ⟨b, off + 3, none⟩ = some x3)
    (f0 : W.frozen? ⟨b, off, none⟩ = false) (f1 : W.frozen? ⟨b, off + 1, none⟩ = false) (f2 : W.frozen? ⟨b, off + 2, none⟩ = false) (f3 : W.frozen? ⟨b, off + 3, none⟩ = false) :
    (Builtin.copy_ #[22, 22] 3 #[.slice (some ⟨b, off, none⟩) 4 4, .slice (some ⟨g, k, none⟩) 4 c]).run Yba.prog W =
      .ok (.int .i64 4) ((((W.setCell ⟨b, off, none⟩ (.int .u8 m0)).setCell ⟨b, off + 1, none⟩ (.int .u8 m1)).setCell ⟨b, off + 2, none⟩ (.int .u8 m2)).setCell ⟨b, off + 3, none⟩ (.int .u8 m3)) := by
  have h := run_copy_cells (P := Yba.prog) W 22 22 3 5 b off 4 4 ⟨g, k, none⟩ 4 c (cellsZ [m0, m1, m2, m3]) Yba.underlying22 size5 rfl (by
      intro j u hu
      match j, hu with
      | 0, hu => simp [cellsZ] at hu; subst hu; simpa [Addr.add] using c0
      | 1, hu => simp [cellsZ] at hu; subst hu; simpa [Addr.add] using c1
      | 2, hu => simp [cellsZ] at hu; subst hu; simpa [Addr.add] using c2
      | 3, hu => simp [cellsZ] at hu; subst hu; simpa [Addr.add] using c3) (by
      intro j hj
      simp [cellsZ] at hj
      match j, hj with
      | 0, _ => simp [d0]
      | 1, _ => simp [d1]
      | 2, _ => simp [d2]
      | 3, _ => simp [d3]) (by
      intro j hj
      simp [cellsZ] at hj
      match j, hj with
      | 0, _ => simp [f0]
      | 1, _ => simp [f1]
      | 2, _ => simp [f2]
      | 3, _ => simp [f3]) (cellsZ_one _)
  exact h

theorem ctl_any (x : Int) (w : World) : Calls Yba.prog 13 #[.int .u8 x] w fun e w' => e = .returned (.bool (bits .and .u8 x 8 != 0)) ∧ w' = w := by
  go_enter Yba.func13, Yba.ntmps13
  go_wp2
  go_ret
  exact ⟨rfl, rfl⟩
theorem perr_any (s : ByteArray) (w : World) : Calls Yba.prog 12 #[.string s] w fun e w' => e = .returned (.iface 48 (.agg #[.int .u16 1002, .string s])) ∧ w' = w := by
  go_enter Yba.func12, Yba.ntmps12
  go_wp2
  go_ret
  exact ⟨rfl, rfl⟩
theorem cell_a1 {w : World} {p : Addr} {v : Value} (h : w.cell? p = some v) (x : Obj) : (w.alloc x).cell? p = some v := by
  rw [World.cell?_of_block (w := w) (a := p) (Below.heap_alloc w x p.block (World.block_lt_of_cell? _ _ h))]
  exact h
theorem cell_a2 {w : World} {p : Addr} {v : Value} (h : w.cell? p = some v) (x y : Obj) : ((w.alloc x).alloc y).cell? p = some v := cell_a1 (cell_a1 h x) y


/-- Behind a call below which nothing turned: the old cells and the old marks. -/
theorem bcell {W w1 : World} (hb : Below W.heap.size W w1) : (∀ b o, b < W.heap.size → w1.cell? ⟨b, o, none⟩ = W.cell? ⟨b, o, none⟩) ∧ (∀ b o, b < W.heap.size → w1.frozen? ⟨b, o, none⟩ = W.frozen? ⟨b, o, none⟩) :=
  ⟨fun b o h => hb.cell (p := ⟨b, o, none⟩) h, fun b o h => hb.frozen (p := ⟨b, o, none⟩) h⟩

/-- What parseFrameHeader hands back beside the header: no error, or a fault of the protocol. -/
def Fault (bad : Bool) (v : Value) : Prop := if bad then ∃ s : ByteArray, v = .iface 48 (.agg #[.int .u16 1002, .string s]) else v = .nilIface

theorem Fault.ok : Fault false .nilIface := rfl
theorem Fault.bad (s : ByteArray) : Fault true (.iface 48 (.agg #[.int .u16 1002, .string s])) := ⟨s, rfl⟩

end Go.Proofs.Ybulkbuhs
