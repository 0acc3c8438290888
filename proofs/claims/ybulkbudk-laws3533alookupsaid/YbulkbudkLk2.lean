/- LawS3533ALookup: setsIn. -/
import Derived.Test.YbulkbudkLk1
namespace Go.Proofs.Ybulkbudk
open Go.RowKit Go.Maps

theorem zero30 (w : World) : (zeroValue 30).run Yba.prog w = .ok (.slice none 0 0) w := by
  have h : Yba.t30.zero = some (.slice none 0 0) := by kernel_rfl
  simp [zeroValue, go_sem, h]

/-- 'm[k]' of one of the maps. -/
theorem look24 {w : World} {b n : Nat} {D : DataW Value} {key v : Value} {kl : Lit} (h : w.ownsMap Yba.prog 34 R b n D) (hk : keyOf Yba.prog 34 key = some kl) (hv : D.atKey kl (.held (.slice none 0 0)) = .held v) :
    (Instr.lookup 24 (.map (some b)) key false).run Yba.prog w = .ok v w := by
  obtain ⟨u, ps, hrun, hr⟩ := h.lookup (zd := .held (.slice none 0 0)) (zp := []) keyed34 Yba.underlying24 (zero30 w) rfl hk
  rw [hv] at hr
  simp only [R, Option.some.injEq, Prod.mk.injEq, DataW.held.injEq] at hr
  rw [hrun, hr.1]

theorem cell_al {w : World} {p : Addr} {v : Value} (h : w.cell? p = some v) (x : Obj) : (w.alloc x).cell? p = some v := by
  rw [World.cell?_of_block (w := w) (a := p) (Below.heap_alloc w x p.block (World.block_lt_of_cell? _ _ h))]
  exact h

set_option maxRecDepth 100000 in
set_option maxHeartbeats 1000000 in
theorem setsIn_at (bl bs n : Nat) (D : DataW Value) (f : ByteArray) (l c : Int) (kl : Lit) (v : Value) (w : World) (hown : w.ownsMap Yba.prog 34 R bs n D) (hcell : w.cell? ⟨bl, 2, none⟩ = some (.map (some bs)))
    (hk : keyOf Yba.prog 34 (.agg #[.string f, .int .i64 l, .int .i64 c]) = some kl) (hv : D.atKey kl (.held (.slice none 0 0)) = .held v) :
    Calls Yba.prog 8 #[.pointer (some ⟨bl, 0, none⟩), .agg #[.string f, .int .i64 l, .int .i64 c]] w fun e w' => e = .returned v ∧ Below w.heap.size w w' := by
  have hl : ∀ x, (Instr.lookup 24 (.map (some bs)) (.agg #[.string f, .int .i64 l, .int .i64 c]) false).run Yba.prog (w.alloc x).drew = .ok v (w.alloc x).drew := fun x => look24 (hown.alloc x).drew hk hv
  have hc1 : ∀ x, (w.alloc x).cell? ⟨bl, 2, none⟩ = some (.map (some bs)) := fun x => cell_al hcell x
  clear hown hk hv hcell
  go_enter Yba.func8, Yba.ntmps8
  go_wp2_with fail
  go_region
  go_wp2
  go_ret
  exact ⟨rfl, ((Below.refl _ _).alloc (Nat.le_refl _) _).drew⟩
end Go.Proofs.Ybulkbudk
