/- Laws for the walk of LawS3541BRoundTrip. -/
import Derived.Test.YbulkbuhsParse0
import Derived.Test.YbulkbuhsExact0
import Derived.DeepKeys
namespace Go.Proofs.Ybulkbuhs
open Go.RowKit
theorem cells5' : Yba.prog.cellsOf 5 = 1 := by kernel_rfl
theorem cells23' : Yba.prog.cellsOf 23 = 4 := by kernel_rfl
theorem keyLits_mask (m0 m1 m2 m3 : Int) (h0 : (Lit.int .u8 m0).wf = true) (h1 : (Lit.int .u8 m1).wf = true) (h2 : (Lit.int .u8 m2).wf = true) (h3 : (Lit.int .u8 m3).wf = true) :
    Yba.prog.keyLits 5 23 (Value.agg #[.int .u8 m0, .int .u8 m1, .int .u8 m2, .int .u8 m3]).cells.toList = some [.int .u8 m0, .int .u8 m1, .int .u8 m2, .int .u8 m3] := by
  simp [Program.keyLits, Yba.underlying23, Yba.underlying5, cells5', cells23', Value.cells, h0, h1, h2, h3, List.range, List.range.loop]
theorem eq_mask (w : World) (m0 m1 m2 m3 : Int) (h0 : (Lit.int .u8 m0).wf = true) (h1 : (Lit.int .u8 m1).wf = true) (h2 : (Lit.int .u8 m2).wf = true) (h3 : (Lit.int .u8 m3).wf = true) :
    (Op.equalIn 9999 23 (.agg #[.int .u8 m0, .int .u8 m1, .int .u8 m2, .int .u8 m3]) (.agg #[.int .u8 m0, .int .u8 m1, .int .u8 m2, .int .u8 m3])).run Yba.prog w = .ok true w := by
  have k := keyLits_mask m0 m1 m2 m3 h0 h1 h2 h3
  obtain ⟨r, e1, e2⟩ := run_equalIn_deep (P := Yba.prog) 9996 3 23 (by kernel_rfl) w 5 5 (.agg #[.int .u8 m0, .int .u8 m1, .int .u8 m2, .int .u8 m3]) (.agg #[.int .u8 m0, .int .u8 m1, .int .u8 m2, .int .u8 m3]) _ _ (by kernel_rfl) (by kernel_rfl) k k
  rw [e2.2 rfl] at e1
  exact e1
theorem cell_w (w : World) (x y : Obj) (zs : Array Value) (t : TypeId) (k : Nat) (v : Value) (h : zs[k]? = some v) : (((w.alloc x).alloc y).alloc (.cells zs t)).cell? ⟨w.heap.size + 1 + 1, k, none⟩ = some v := by
  have e : ((w.alloc x).alloc y).heap.size = w.heap.size + 1 + 1 := by simp
  have f : ∀ W : World, (W.alloc (.cells zs t)).cell? ⟨W.heap.size, k, none⟩ = some v := fun W => by simp [h]
  rw [← e]
  exact f _

end Go.Proofs.Ybulkbuhs
