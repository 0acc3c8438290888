/- The walk of LawS3541BRoundTrip. -/
import Derived.Test.YbulkbuhsRt0
namespace Go.Proofs.Ybulkbuhs
open Go.RowKit
set_option linter.unusedVariables false
set_option linter.unusedSimpArgs false


set_option maxHeartbeats 4000000 in
set_option maxRecDepth 100000 in
theorem rt_large_ttt_p (op : Nat) (x m0 m1 m2 m3 : Int) (h0 : (Lit.int .u8 m0).wf = true) (h1 : (Lit.int .u8 m1).wf = true) (h2 : (Lit.int .u8 m2).wf = true) (h3 : (Lit.int .u8 m3).wf = true) (N : Nat) (hN0 : 65535 < N) (hN : N ≤ 9223372036854775807) (w : World) (f5 : bits .and .u8 (op : Int) 8 = 8) (f6 : bits .and .u8 (op : Int) 15 = x) (L : List Int)
   (H5 : Hid (∀ W : World, Calls Yba.prog 5 #[.slice none 0 0, .agg #[.bool true, .int .u8 x, .bool true, .int .u8 m0, .int .u8 m1, .int .u8 m2, .int .u8 m3, .int .i64 N]] W fun e w' => ∃ v', e = .returned v' ∧ w'.ownsRow (W.heap.size + 1 + 1) 5 1 v' 14 (cellsZ L) ∧ Below W.heap.size W w'))
   (H7 : Hid (∀ (W : World) (g c : Nat), 14 ≤ c → c ≤ 9223372036854775807 → (∀ j, j < 14 → W.cell? ⟨g, 0 + j, none⟩ = some (.int .u8 (L.getD j 0))) →
     Calls Yba.prog 7 #[.slice (some ⟨g, 0, none⟩) 14 c] W fun e w' => ∃ v, e = .returned (.tuple #[.agg #[.bool true, .int .u8 x, .bool true, .int .u8 m0, .int .u8 m1, .int .u8 m2, .int .u8 m3, .int .i64 N], v]) ∧ Fault true v ∧ Below W.heap.size W w')) :
    Calls Yba.prog 4 #[.bool true, .int .u8 op, .bool true, .agg #[.int .u8 m0, .int .u8 m1, .int .u8 m2, .int .u8 m3], .int .i64 N] w fun e w' => e = .returned (.bool true) ∧ Below w.heap.size w w' := by
  have HE : Hid (∀ W, (Op.equalIn 9999 23 (.agg #[.int .u8 m0, .int .u8 m1, .int .u8 m2, .int .u8 m3]) (.agg #[.int .u8 m0, .int .u8 m1, .int .u8 m2, .int .u8 m3])).run Yba.prog W = .ok true W) := fun W => eq_mask W _ _ _ _ h0 h1 h2 h3
  clear h0 h1 h2 h3
  go_enter Yba.func4, Yba.ntmps4
  go_wp2_with fail
  refine (H5.out _).mono ?_
  rintro e w1 ⟨v1, rfl, hown, hb1⟩
  obtain ⟨g, c, rfl, hc, hc2, _, hgl, _, hcell⟩ := own_cells hown (by omega)
  have HR := hid (H7.out w1 g c hc hc2 hcell)
  have B1 := bcell hb1
  have hs1 := hb1.size
  simp at hs1
  have HB1 : Hid (Below w.heap.size w w1) := ((((Below.refl w.heap.size w).alloc (Nat.le_refl _) _).alloc (by simp) _).alloc (by simp; omega) _).trans (hb1.mono (by simp; omega))
  have q0 := (B1.1 (w.heap.size + 1 + 1) 0 (by simp)).trans (cell_w w _ _ _ _ 0 _ rfl)
  have q1 := (B1.1 (w.heap.size + 1 + 1) 1 (by simp)).trans (cell_w w _ _ _ _ 1 _ rfl)
  have q2 := (B1.1 (w.heap.size + 1 + 1) 2 (by simp)).trans (cell_w w _ _ _ _ 2 _ rfl)
  have q3 := (B1.1 (w.heap.size + 1 + 1) 3 (by simp)).trans (cell_w w _ _ _ _ 3 _ rfl)
  have q4 := (B1.1 (w.heap.size + 1 + 1) 4 (by simp)).trans (cell_w w _ _ _ _ 4 _ rfl)
  have q5 := (B1.1 (w.heap.size + 1 + 1) 5 (by simp)).trans (cell_w w _ _ _ _ 5 _ rfl)
  have q6 := (B1.1 (w.heap.size + 1 + 1) 6 (by simp)).trans (cell_w w _ _ _ _ 6 _ rfl)
  have q7 := (B1.1 (w.heap.size + 1 + 1) 7 (by simp)).trans (cell_w w _ _ _ _ 7 _ rfl)
  clear B1 hown hb1 hcell H5 H7
  go_wp2_with fail
  refine HR.out.mono ?_
  clear HR
  rintro e w2 ⟨v, rfl, hF, hb2⟩
  have HB2 : Hid (Below w.heap.size w w2) := HB1.out.trans (hb2.mono (by omega))
  have r0 := cell_a1 (cell_below hb2 (by simp; omega) q0)
  have r1 := cell_a1 (cell_below hb2 (by simp; omega) q1)
  have r2 := cell_a1 (cell_below hb2 (by simp; omega) q2)
  have r3 := cell_a1 (cell_below hb2 (by simp; omega) q3)
  have r4 := cell_a1 (cell_below hb2 (by simp; omega) q4)
  have r5 := cell_a1 (cell_below hb2 (by simp; omega) q5)
  have r6 := cell_a1 (cell_below hb2 (by simp; omega) q6)
  have r7 := cell_a1 (cell_below hb2 (by simp; omega) q7)
  have hs2 := hb2.size
  clear q0 q1 q2 q3 q4 q5 q6 q7 hb2 HB1
  obtain ⟨s, rfl⟩ := hF
  go_wp2
  go_ret
  exact ⟨rfl, HB2.out.alloc (by omega) _⟩


set_option maxHeartbeats 4000000 in
set_option maxRecDepth 100000 in
theorem rt_large_ttt_n (op : Nat) (x m0 m1 m2 m3 : Int) (h0 : (Lit.int .u8 m0).wf = true) (h1 : (Lit.int .u8 m1).wf = true) (h2 : (Lit.int .u8 m2).wf = true) (h3 : (Lit.int .u8 m3).wf = true) (N : Nat) (hN0 : 65535 < N) (hN : N ≤ 9223372036854775807) (w : World) (f5 : bits .and .u8 (op : Int) 8 = 8) (f6 : bits .and .u8 (op : Int) 15 = x) (L : List Int)
   (H5 : Hid (∀ W : World, Calls Yba.prog 5 #[.slice none 0 0, .agg #[.bool true, .int .u8 x, .bool true, .int .u8 m0, .int .u8 m1, .int .u8 m2, .int .u8 m3, .int .i64 N]] W fun e w' => ∃ v', e = .returned v' ∧ w'.ownsRow (W.heap.size + 1 + 1) 5 1 v' 14 (cellsZ L) ∧ Below W.heap.size W w'))
   (H7 : Hid (∀ (W : World) (g c : Nat), 14 ≤ c → c ≤ 9223372036854775807 → (∀ j, j < 14 → W.cell? ⟨g, 0 + j, none⟩ = some (.int .u8 (L.getD j 0))) →
     Calls Yba.prog 7 #[.slice (some ⟨g, 0, none⟩) 14 c] W fun e w' => ∃ v, e = .returned (.tuple #[.agg #[.bool true, .int .u8 x, .bool true, .int .u8 m0, .int .u8 m1, .int .u8 m2, .int .u8 m3, .int .i64 N], v]) ∧ Fault true v ∧ Below W.heap.size W w')) :
    Calls Yba.prog 4 #[.bool true, .int .u8 op, .bool true, .agg #[.int .u8 m0, .int .u8 m1, .int .u8 m2, .int .u8 m3], .int .i64 (-(N : Int) - 1)] w fun e w' => e = .returned (.bool true) ∧ Below w.heap.size w w' := by
  have HE : Hid (∀ W, (Op.equalIn 9999 23 (.agg #[.int .u8 m0, .int .u8 m1, .int .u8 m2, .int .u8 m3]) (.agg #[.int .u8 m0, .int .u8 m1, .int .u8 m2, .int .u8 m3])).run Yba.prog W = .ok true W) := fun W => eq_mask W _ _ _ _ h0 h1 h2 h3
  clear h0 h1 h2 h3
  generalize hz : (-(N : Int) - 1) = z at *
  have z1 : z < 0 := by omega
  have z2 : -9223372036854775808 ≤ z := by omega
  have z3 : -(z + 1) = (N : Int) := by omega
  clear hz
  go_enter Yba.func4, Yba.ntmps4
  go_wp2_with fail
  refine (H5.out _).mono ?_
  rintro e w1 ⟨v1, rfl, hown, hb1⟩
  obtain ⟨g, c, rfl, hc, hc2, _, hgl, _, hcell⟩ := own_cells hown (by omega)
  have HR := hid (H7.out w1 g c hc hc2 hcell)
  have B1 := bcell hb1
  have hs1 := hb1.size
  simp at hs1
  have HB1 : Hid (Below w.heap.size w w1) := ((((Below.refl w.heap.size w).alloc (Nat.le_refl _) _).alloc (by simp) _).alloc (by simp; omega) _).trans (hb1.mono (by simp; omega))
  have q0 := (B1.1 (w.heap.size + 1 + 1) 0 (by simp)).trans (cell_w w _ _ _ _ 0 _ rfl)
  have q1 := (B1.1 (w.heap.size + 1 + 1) 1 (by simp)).trans (cell_w w _ _ _ _ 1 _ rfl)
  have q2 := (B1.1 (w.heap.size + 1 + 1) 2 (by simp)).trans (cell_w w _ _ _ _ 2 _ rfl)
  have q3 := (B1.1 (w.heap.size + 1 + 1) 3 (by simp)).trans (cell_w w _ _ _ _ 3 _ rfl)
  have q4 := (B1.1 (w.heap.size + 1 + 1) 4 (by simp)).trans (cell_w w _ _ _ _ 4 _ rfl)
  have q5 := (B1.1 (w.heap.size + 1 + 1) 5 (by simp)).trans (cell_w w _ _ _ _ 5 _ rfl)
  have q6 := (B1.1 (w.heap.size + 1 + 1) 6 (by simp)).trans (cell_w w _ _ _ _ 6 _ rfl)
  have q7 := (B1.1 (w.heap.size + 1 + 1) 7 (by simp)).trans (cell_w w _ _ _ _ 7 _ rfl)
  clear B1 hown hb1 hcell H5 H7
  go_wp2_with fail
  refine HR.out.mono ?_
  clear HR
  rintro e w2 ⟨v, rfl, hF, hb2⟩
  have HB2 : Hid (Below w.heap.size w w2) := HB1.out.trans (hb2.mono (by omega))
  have r0 := cell_a1 (cell_below hb2 (by simp; omega) q0)
  have r1 := cell_a1 (cell_below hb2 (by simp; omega) q1)
  have r2 := cell_a1 (cell_below hb2 (by simp; omega) q2)
  have r3 := cell_a1 (cell_below hb2 (by simp; omega) q3)
  have r4 := cell_a1 (cell_below hb2 (by simp; omega) q4)
  have r5 := cell_a1 (cell_below hb2 (by simp; omega) q5)
  have r6 := cell_a1 (cell_below hb2 (by simp; omega) q6)
  have r7 := cell_a1 (cell_below hb2 (by simp; omega) q7)
  have hs2 := hb2.size
  clear q0 q1 q2 q3 q4 q5 q6 q7 hb2 HB1
  obtain ⟨s, rfl⟩ := hF
  go_wp2
  go_ret
  exact ⟨rfl, HB2.out.alloc (by omega) _⟩


set_option maxHeartbeats 4000000 in
set_option maxRecDepth 100000 in
theorem rt_large_ttf_p (op : Nat) (x m0 m1 m2 m3 : Int) (h0 : (Lit.int .u8 m0).wf = true) (h1 : (Lit.int .u8 m1).wf = true) (h2 : (Lit.int .u8 m2).wf = true) (h3 : (Lit.int .u8 m3).wf = true) (N : Nat) (hN0 : 65535 < N) (hN : N ≤ 9223372036854775807) (w : World) (f5 : bits .and .u8 (op : Int) 8 = 0) (f6 : bits .and .u8 (op : Int) 15 = x) (L : List Int)
   (H5 : Hid (∀ W : World, Calls Yba.prog 5 #[.slice none 0 0, .agg #[.bool true, .int .u8 x, .bool true, .int .u8 m0, .int .u8 m1, .int .u8 m2, .int .u8 m3, .int .i64 N]] W fun e w' => ∃ v', e = .returned v' ∧ w'.ownsRow (W.heap.size + 1 + 1) 5 1 v' 14 (cellsZ L) ∧ Below W.heap.size W w'))
   (H7 : Hid (∀ (W : World) (g c : Nat), 14 ≤ c → c ≤ 9223372036854775807 → (∀ j, j < 14 → W.cell? ⟨g, 0 + j, none⟩ = some (.int .u8 (L.getD j 0))) →
     Calls Yba.prog 7 #[.slice (some ⟨g, 0, none⟩) 14 c] W fun e w' => ∃ v, e = .returned (.tuple #[.agg #[.bool true, .int .u8 x, .bool true, .int .u8 m0, .int .u8 m1, .int .u8 m2, .int .u8 m3, .int .i64 N], v]) ∧ Fault false v ∧ Below W.heap.size W w')) :
    Calls Yba.prog 4 #[.bool true, .int .u8 op, .bool true, .agg #[.int .u8 m0, .int .u8 m1, .int .u8 m2, .int .u8 m3], .int .i64 N] w fun e w' => e = .returned (.bool true) ∧ Below w.heap.size w w' := by
  have HE : Hid (∀ W, (Op.equalIn 9999 23 (.agg #[.int .u8 m0, .int .u8 m1, .int .u8 m2, .int .u8 m3]) (.agg #[.int .u8 m0, .int .u8 m1, .int .u8 m2, .int .u8 m3])).run Yba.prog W = .ok true W) := fun W => eq_mask W _ _ _ _ h0 h1 h2 h3
  clear h0 h1 h2 h3
  go_enter Yba.func4, Yba.ntmps4
  go_wp2_with fail
  refine (H5.out _).mono ?_
  rintro e w1 ⟨v1, rfl, hown, hb1⟩
  obtain ⟨g, c, rfl, hc, hc2, _, hgl, _, hcell⟩ := own_cells hown (by omega)
  have HR := hid (H7.out w1 g c hc hc2 hcell)
  have B1 := bcell hb1
  have hs1 := hb1.size
  simp at hs1
  have HB1 : Hid (Below w.heap.size w w1) := ((((Below.refl w.heap.size w).alloc (Nat.le_refl _) _).alloc (by simp) _).alloc (by simp; omega) _).trans (hb1.mono (by simp; omega))
  have q0 := (B1.1 (w.heap.size + 1 + 1) 0 (by simp)).trans (cell_w w _ _ _ _ 0 _ rfl)
  have q1 := (B1.1 (w.heap.size + 1 + 1) 1 (by simp)).trans (cell_w w _ _ _ _ 1 _ rfl)
  have q2 := (B1.1 (w.heap.size + 1 + 1) 2 (by simp)).trans (cell_w w _ _ _ _ 2 _ rfl)
  have q3 := (B1.1 (w.heap.size + 1 + 1) 3 (by simp)).trans (cell_w w _ _ _ _ 3 _ rfl)
  have q4 := (B1.1 (w.heap.size + 1 + 1) 4 (by simp)).trans (cell_w w _ _ _ _ 4 _ rfl)
  have q5 := (B1.1 (w.heap.size + 1 + 1) 5 (by simp)).trans (cell_w w _ _ _ _ 5 _ rfl)
  have q6 := (B1.1 (w.heap.size + 1 + 1) 6 (by simp)).trans (cell_w w _ _ _ _ 6 _ rfl)
  have q7 := (B1.1 (w.heap.size + 1 + 1) 7 (by simp)).trans (cell_w w _ _ _ _ 7 _ rfl)
  clear B1 hown hb1 hcell H5 H7
  go_wp2_with fail
  refine HR.out.mono ?_
  clear HR
  rintro e w2 ⟨v, rfl, hF, hb2⟩
  have HB2 : Hid (Below w.heap.size w w2) := HB1.out.trans (hb2.mono (by omega))
  have r0 := cell_a1 (cell_below hb2 (by simp; omega) q0)
  have r1 := cell_a1 (cell_below hb2 (by simp; omega) q1)
  have r2 := cell_a1 (cell_below hb2 (by simp; omega) q2)
  have r3 := cell_a1 (cell_below hb2 (by simp; omega) q3)
  have r4 := cell_a1 (cell_below hb2 (by simp; omega) q4)
  have r5 := cell_a1 (cell_below hb2 (by simp; omega) q5)
  have r6 := cell_a1 (cell_below hb2 (by simp; omega) q6)
  have r7 := cell_a1 (cell_below hb2 (by simp; omega) q7)
  have hs2 := hb2.size
  clear q0 q1 q2 q3 q4 q5 q6 q7 hb2 HB1
  obtain rfl : v = .nilIface := hF
  go_wp2_with fail
  rw [HE.out]
  simp only [Result.andThen_ok, Bool.true_eq_false, if_false]
  go_wp2
  go_ret
  exact ⟨rfl, HB2.out.alloc (by omega) _⟩


set_option maxHeartbeats 4000000 in
set_option maxRecDepth 100000 in
theorem rt_large_ttf_n (op : Nat) (x m0 m1 m2 m3 : Int) (h0 : (Lit.int .u8 m0).wf = true) (h1 : (Lit.int .u8 m1).wf = true) (h2 : (Lit.int .u8 m2).wf = true) (h3 : (Lit.int .u8 m3).wf = true) (N : Nat) (hN0 : 65535 < N) (hN : N ≤ 9223372036854775807) (w : World) (f5 : bits .and .u8 (op : Int) 8 = 0) (f6 : bits .and .u8 (op : Int) 15 = x) (L : List Int)
   (H5 : Hid (∀ W : World, Calls Yba.prog 5 #[.slice none 0 0, .agg #[.bool true, .int .u8 x, .bool true, .int .u8 m0, .int .u8 m1, .int .u8 m2, .int .u8 m3, .int .i64 N]] W fun e w' => ∃ v', e = .returned v' ∧ w'.ownsRow (W.heap.size + 1 + 1) 5 1 v' 14 (cellsZ L) ∧ Below W.heap.size W w'))
   (H7 : Hid (∀ (W : World) (g c : Nat), 14 ≤ c → c ≤ 9223372036854775807 → (∀ j, j < 14 → W.cell? ⟨g, 0 + j, none⟩ = some (.int .u8 (L.getD j 0))) →
     Calls Yba.prog 7 #[.slice (some ⟨g, 0, none⟩) 14 c] W fun e w' => ∃ v, e = .returned (.tuple #[.agg #[.bool true, .int .u8 x, .bool true, .int .u8 m0, .int .u8 m1, .int .u8 m2, .int .u8 m3, .int .i64 N], v]) ∧ Fault false v ∧ Below W.heap.size W w')) :
    Calls Yba.prog 4 #[.bool true, .int .u8 op, .bool true, .agg #[.int .u8 m0, .int .u8 m1, .int .u8 m2, .int .u8 m3], .int .i64 (-(N : Int) - 1)] w fun e w' => e = .returned (.bool true) ∧ Below w.heap.size w w' := by
  have HE : Hid (∀ W, (Op.equalIn 9999 23 (.agg #[.int .u8 m0, .int .u8 m1, .int .u8 m2, .int .u8 m3]) (.agg #[.int .u8 m0, .int .u8 m1, .int .u8 m2, .int .u8 m3])).run Yba.prog W = .ok true W) := fun W => eq_mask W _ _ _ _ h0 h1 h2 h3
  clear h0 h1 h2 h3
  generalize hz : (-(N : Int) - 1) = z at *
  have z1 : z < 0 := by omega
  have z2 : -9223372036854775808 ≤ z := by omega
  have z3 : -(z + 1) = (N : Int) := by omega
  clear hz
  go_enter Yba.func4, Yba.ntmps4
  go_wp2_with fail
  refine (H5.out _).mono ?_
  rintro e w1 ⟨v1, rfl, hown, hb1⟩
  obtain ⟨g, c, rfl, hc, hc2, _, hgl, _, hcell⟩ := own_cells hown (by omega)
  have HR := hid (H7.out w1 g c hc hc2 hcell)
  have B1 := bcell hb1
  have hs1 := hb1.size
  simp at hs1
  have HB1 : Hid (Below w.heap.size w w1) := ((((Below.refl w.heap.size w).alloc (Nat.le_refl _) _).alloc (by simp) _).alloc (by simp; omega) _).trans (hb1.mono (by simp; omega))
  have q0 := (B1.1 (w.heap.size + 1 + 1) 0 (by simp)).trans (cell_w w _ _ _ _ 0 _ rfl)
  have q1 := (B1.1 (w.heap.size + 1 + 1) 1 (by simp)).trans (cell_w w _ _ _ _ 1 _ rfl)
  have q2 := (B1.1 (w.heap.size + 1 + 1) 2 (by simp)).trans (cell_w w _ _ _ _ 2 _ rfl)
  have q3 := (B1.1 (w.heap.size + 1 + 1) 3 (by simp)).trans (cell_w w _ _ _ _ 3 _ rfl)
  have q4 := (B1.1 (w.heap.size + 1 + 1) 4 (by simp)).trans (cell_w w _ _ _ _ 4 _ rfl)
  have q5 := (B1.1 (w.heap.size + 1 + 1) 5 (by simp)).trans (cell_w w _ _ _ _ 5 _ rfl)
  have q6 := (B1.1 (w.heap.size + 1 + 1) 6 (by simp)).trans (cell_w w _ _ _ _ 6 _ rfl)
  have q7 := (B1.1 (w.heap.size + 1 + 1) 7 (by simp)).trans (cell_w w _ _ _ _ 7 _ rfl)
  clear B1 hown hb1 hcell H5 H7
  go_wp2_with fail
  refine HR.out.mono ?_
  clear HR
  rintro e w2 ⟨v, rfl, hF, hb2⟩
  have HB2 : Hid (Below w.heap.size w w2) := HB1.out.trans (hb2.mono (by omega))
  have r0 := cell_a1 (cell_below hb2 (by simp; omega) q0)
  have r1 := cell_a1 (cell_below hb2 (by simp; omega) q1)
  have r2 := cell_a1 (cell_below hb2 (by simp; omega) q2)
  have r3 := cell_a1 (cell_below hb2 (by simp; omega) q3)
  have r4 := cell_a1 (cell_below hb2 (by simp; omega) q4)
  have r5 := cell_a1 (cell_below hb2 (by simp; omega) q5)
  have r6 := cell_a1 (cell_below hb2 (by simp; omega) q6)
  have r7 := cell_a1 (cell_below hb2 (by simp; omega) q7)
  have hs2 := hb2.size
  clear q0 q1 q2 q3 q4 q5 q6 q7 hb2 HB1
  obtain rfl : v = .nilIface := hF
  go_wp2_with fail
  rw [HE.out]
  simp only [Result.andThen_ok, Bool.true_eq_false, if_false]
  go_wp2
  go_ret
  exact ⟨rfl, HB2.out.alloc (by omega) _⟩


set_option maxHeartbeats 4000000 in
set_option maxRecDepth 100000 in
theorem rt_large_tft_p (op : Nat) (x m0 m1 m2 m3 : Int) (h0 : (Lit.int .u8 m0).wf = true) (h1 : (Lit.int .u8 m1).wf = true) (h2 : (Lit.int .u8 m2).wf = true) (h3 : (Lit.int .u8 m3).wf = true) (N : Nat) (hN0 : 65535 < N) (hN : N ≤ 9223372036854775807) (w : World) (f5 : bits .and .u8 (op : Int) 8 = 8) (f6 : bits .and .u8 (op : Int) 15 = x) (L : List Int)
   (H5 : Hid (∀ W : World, Calls Yba.prog 5 #[.slice none 0 0, .agg #[.bool true, .int .u8 x, .bool false, .int .u8 m0, .int .u8 m1, .int .u8 m2, .int .u8 m3, .int .i64 N]] W fun e w' => ∃ v', e = .returned v' ∧ w'.ownsRow (W.heap.size + 1 + 1) 5 1 v' 10 (cellsZ L) ∧ Below W.heap.size W w'))
   (H7 : Hid (∀ (W : World) (g c : Nat), 10 ≤ c → c ≤ 9223372036854775807 → (∀ j, j < 10 → W.cell? ⟨g, 0 + j, none⟩ = some (.int .u8 (L.getD j 0))) →
     Calls Yba.prog 7 #[.slice (some ⟨g, 0, none⟩) 10 c] W fun e w' => ∃ v, e = .returned (.tuple #[.agg #[.bool true, .int .u8 x, .bool false, .int .u8 0, .int .u8 0, .int .u8 0, .int .u8 0, .int .i64 N], v]) ∧ Fault true v ∧ Below W.heap.size W w')) :
    Calls Yba.prog 4 #[.bool true, .int .u8 op, .bool false, .agg #[.int .u8 m0, .int .u8 m1, .int .u8 m2, .int .u8 m3], .int .i64 N] w fun e w' => e = .returned (.bool true) ∧ Below w.heap.size w w' := by
  have HE : Hid (∀ W, (Op.equalIn 9999 23 (.agg #[.int .u8 0, .int .u8 0, .int .u8 0, .int .u8 0]) (.agg #[.int .u8 0, .int .u8 0, .int .u8 0, .int .u8 0])).run Yba.prog W = .ok true W) := fun W => eq_mask W _ _ _ _ rfl rfl rfl rfl
  clear h0 h1 h2 h3
  go_enter Yba.func4, Yba.ntmps4
  go_wp2_with fail
  refine (H5.out _).mono ?_
  rintro e w1 ⟨v1, rfl, hown, hb1⟩
  obtain ⟨g, c, rfl, hc, hc2, _, hgl, _, hcell⟩ := own_cells hown (by omega)
  have HR := hid (H7.out w1 g c hc hc2 hcell)
  have B1 := bcell hb1
  have hs1 := hb1.size
  simp at hs1
  have HB1 : Hid (Below w.heap.size w w1) := ((((Below.refl w.heap.size w).alloc (Nat.le_refl _) _).alloc (by simp) _).alloc (by simp; omega) _).trans (hb1.mono (by simp; omega))
  have q0 := (B1.1 (w.heap.size + 1 + 1) 0 (by simp)).trans (cell_w w _ _ _ _ 0 _ rfl)
  have q1 := (B1.1 (w.heap.size + 1 + 1) 1 (by simp)).trans (cell_w w _ _ _ _ 1 _ rfl)
  have q2 := (B1.1 (w.heap.size + 1 + 1) 2 (by simp)).trans (cell_w w _ _ _ _ 2 _ rfl)
  have q3 := (B1.1 (w.heap.size + 1 + 1) 3 (by simp)).trans (cell_w w _ _ _ _ 3 _ rfl)
  have q4 := (B1.1 (w.heap.size + 1 + 1) 4 (by simp)).trans (cell_w w _ _ _ _ 4 _ rfl)
  have q5 := (B1.1 (w.heap.size + 1 + 1) 5 (by simp)).trans (cell_w w _ _ _ _ 5 _ rfl)
  have q6 := (B1.1 (w.heap.size + 1 + 1) 6 (by simp)).trans (cell_w w _ _ _ _ 6 _ rfl)
  have q7 := (B1.1 (w.heap.size + 1 + 1) 7 (by simp)).trans (cell_w w _ _ _ _ 7 _ rfl)
  clear B1 hown hb1 hcell H5 H7
  go_wp2_with fail
  refine HR.out.mono ?_
  clear HR
  rintro e w2 ⟨v, rfl, hF, hb2⟩
  have HB2 : Hid (Below w.heap.size w w2) := HB1.out.trans (hb2.mono (by omega))
  have r0 := cell_a1 (cell_below hb2 (by simp; omega) q0)
  have r1 := cell_a1 (cell_below hb2 (by simp; omega) q1)
  have r2 := cell_a1 (cell_below hb2 (by simp; omega) q2)
  have r3 := cell_a1 (cell_below hb2 (by simp; omega) q3)
  have r4 := cell_a1 (cell_below hb2 (by simp; omega) q4)
  have r5 := cell_a1 (cell_below hb2 (by simp; omega) q5)
  have r6 := cell_a1 (cell_below hb2 (by simp; omega) q6)
  have r7 := cell_a1 (cell_below hb2 (by simp; omega) q7)
  have hs2 := hb2.size
  clear q0 q1 q2 q3 q4 q5 q6 q7 hb2 HB1
  obtain ⟨s, rfl⟩ := hF
  go_wp2
  go_ret
  exact ⟨rfl, HB2.out.alloc (by omega) _⟩


set_option maxHeartbeats 4000000 in
set_option maxRecDepth 100000 in
theorem rt_large_tft_n (op : Nat) (x m0 m1 m2 m3 : Int) (h0 : (Lit.int .u8 m0).wf = true) (h1 : (Lit.int .u8 m1).wf = true) (h2 : (Lit.int .u8 m2).wf = true) (h3 : (Lit.int .u8 m3).wf = true) (N : Nat) (hN0 : 65535 < N) (hN : N ≤ 9223372036854775807) (w : World) (f5 : bits .and .u8 (op : Int) 8 = 8) (f6 : bits .and .u8 (op : Int) 15 = x) (L : List Int)
   (H5 : Hid (∀ W : World, Calls Yba.prog 5 #[.slice none 0 0, .agg #[.bool true, .int .u8 x, .bool false, .int .u8 m0, .int .u8 m1, .int .u8 m2, .int .u8 m3, .int .i64 N]] W fun e w' => ∃ v', e = .returned v' ∧ w'.ownsRow (W.heap.size + 1 + 1) 5 1 v' 10 (cellsZ L) ∧ Below W.heap.size W w'))
   (H7 : Hid (∀ (W : World) (g c : Nat), 10 ≤ c → c ≤ 9223372036854775807 → (∀ j, j < 10 → W.cell? ⟨g, 0 + j, none⟩ = some (.int .u8 (L.getD j 0))) →
     Calls Yba.prog 7 #[.slice (some ⟨g, 0, none⟩) 10 c] W fun e w' => ∃ v, e = .returned (.tuple #[.agg #[.bool true, .int .u8 x, .bool false, .int .u8 0, .int .u8 0, .int .u8 0, .int .u8 0, .int .i64 N], v]) ∧ Fault true v ∧ Below W.heap.size W w')) :
    Calls Yba.prog 4 #[.bool true, .int .u8 op, .bool false, .agg #[.int .u8 m0, .int .u8 m1, .int .u8 m2, .int .u8 m3], .int .i64 (-(N : Int) - 1)] w fun e w' => e = .returned (.bool true) ∧ Below w.heap.size w w' := by
  have HE : Hid (∀ W, (Op.equalIn 9999 23 (.agg #[.int .u8 0, .int .u8 0, .int .u8 0, .int .u8 0]) (.agg #[.int .u8 0, .int .u8 0, .int .u8 0, .int .u8 0])).run Yba.prog W = .ok true W) := fun W => eq_mask W _ _ _ _ rfl rfl rfl rfl
  clear h0 h1 h2 h3
  generalize hz : (-(N : Int) - 1) = z at *
  have z1 : z < 0 := by omega
  have z2 : -9223372036854775808 ≤ z := by omega
  have z3 : -(z + 1) = (N : Int) := by omega
  clear hz
  go_enter Yba.func4, Yba.ntmps4
  go_wp2_with fail
  refine (H5.out _).mono ?_
  rintro e w1 ⟨v1, rfl, hown, hb1⟩
  obtain ⟨g, c, rfl, hc, hc2, _, hgl, _, hcell⟩ := own_cells hown (by omega)
  have HR := hid (H7.out w1 g c hc hc2 hcell)
  have B1 := bcell hb1
  have hs1 := hb1.size
  simp at hs1
  have HB1 : Hid (Below w.heap.size w w1) := ((((Below.refl w.heap.size w).alloc (Nat.le_refl _) _).alloc (by simp) _).alloc (by simp; omega) _).trans (hb1.mono (by simp; omega))
  have q0 := (B1.1 (w.heap.size + 1 + 1) 0 (by simp)).trans (cell_w w _ _ _ _ 0 _ rfl)
  have q1 := (B1.1 (w.heap.size + 1 + 1) 1 (by simp)).trans (cell_w w _ _ _ _ 1 _ rfl)
  have q2 := (B1.1 (w.heap.size + 1 + 1) 2 (by simp)).trans (cell_w w _ _ _ _ 2 _ rfl)
  have q3 := (B1.1 (w.heap.size + 1 + 1) 3 (by simp)).trans (cell_w w _ _ _ _ 3 _ rfl)
  have q4 := (B1.1 (w.heap.size + 1 + 1) 4 (by simp)).trans (cell_w w _ _ _ _ 4 _ rfl)
  have q5 := (B1.1 (w.heap.size + 1 + 1) 5 (by simp)).trans (cell_w w _ _ _ _ 5 _ rfl)
  have q6 := (B1.1 (w.heap.size + 1 + 1) 6 (by simp)).trans (cell_w w _ _ _ _ 6 _ rfl)
  have q7 := (B1.1 (w.heap.size + 1 + 1) 7 (by simp)).trans (cell_w w _ _ _ _ 7 _ rfl)
  clear B1 hown hb1 hcell H5 H7
  go_wp2_with fail
  refine HR.out.mono ?_
  clear HR
  rintro e w2 ⟨v, rfl, hF, hb2⟩
  have HB2 : Hid (Below w.heap.size w w2) := HB1.out.trans (hb2.mono (by omega))
  have r0 := cell_a1 (cell_below hb2 (by simp; omega) q0)
  have r1 := cell_a1 (cell_below hb2 (by simp; omega) q1)
  have r2 := cell_a1 (cell_below hb2 (by simp; omega) q2)
  have r3 := cell_a1 (cell_below hb2 (by simp; omega) q3)
  have r4 := cell_a1 (cell_below hb2 (by simp; omega) q4)
  have r5 := cell_a1 (cell_below hb2 (by simp; omega) q5)
  have r6 := cell_a1 (cell_below hb2 (by simp; omega) q6)
  have r7 := cell_a1 (cell_below hb2 (by simp; omega) q7)
  have hs2 := hb2.size
  clear q0 q1 q2 q3 q4 q5 q6 q7 hb2 HB1
  obtain ⟨s, rfl⟩ := hF
  go_wp2
  go_ret
  exact ⟨rfl, HB2.out.alloc (by omega) _⟩


set_option maxHeartbeats 4000000 in
set_option maxRecDepth 100000 in
theorem rt_large_tff_p (op : Nat) (x m0 m1 m2 m3 : Int) (h0 : (Lit.int .u8 m0).wf = true) (h1 : (Lit.int .u8 m1).wf = true) (h2 : (Lit.int .u8 m2).wf = true) (h3 : (Lit.int .u8 m3).wf = true) (N : Nat) (hN0 : 65535 < N) (hN : N ≤ 9223372036854775807) (w : World) (f5 : bits .and .u8 (op : Int) 8 = 0) (f6 : bits .and .u8 (op : Int) 15 = x) (L : List Int)
   (H5 : Hid (∀ W : World, Calls Yba.prog 5 #[.slice none 0 0, .agg #[.bool true, .int .u8 x, .bool false, .int .u8 m0, .int .u8 m1, .int .u8 m2, .int .u8 m3, .int .i64 N]] W fun e w' => ∃ v', e = .returned v' ∧ w'.ownsRow (W.heap.size + 1 + 1) 5 1 v' 10 (cellsZ L) ∧ Below W.heap.size W w'))
   (H7 : Hid (∀ (W : World) (g c : Nat), 10 ≤ c → c ≤ 9223372036854775807 → (∀ j, j < 10 → W.cell? ⟨g, 0 + j, none⟩ = some (.int .u8 (L.getD j 0))) →
     Calls Yba.prog 7 #[.slice (some ⟨g, 0, none⟩) 10 c] W fun e w' => ∃ v, e = .returned (.tuple #[.agg #[.bool true, .int .u8 x, .bool false, .int .u8 0, .int .u8 0, .int .u8 0, .int .u8 0, .int .i64 N], v]) ∧ Fault false v ∧ Below W.heap.size W w')) :
    Calls Yba.prog 4 #[.bool true, .int .u8 op, .bool false, .agg #[.int .u8 m0, .int .u8 m1, .int .u8 m2, .int .u8 m3], .int .i64 N] w fun e w' => e = .returned (.bool true) ∧ Below w.heap.size w w' := by
  have HE : Hid (∀ W, (Op.equalIn 9999 23 (.agg #[.int .u8 0, .int .u8 0, .int .u8 0, .int .u8 0]) (.agg #[.int .u8 0, .int .u8 0, .int .u8 0, .int .u8 0])).run Yba.prog W = .ok true W) := fun W => eq_mask W _ _ _ _ rfl rfl rfl rfl
  clear h0 h1 h2 h3
  go_enter Yba.func4, Yba.ntmps4
  go_wp2_with fail
  refine (H5.out _).mono ?_
  rintro e w1 ⟨v1, rfl, hown, hb1⟩
  obtain ⟨g, c, rfl, hc, hc2, _, hgl, _, hcell⟩ := own_cells hown (by omega)
  have HR := hid (H7.out w1 g c hc hc2 hcell)
  have B1 := bcell hb1
  have hs1 := hb1.size
  simp at hs1
  have HB1 : Hid (Below w.heap.size w w1) := ((((Below.refl w.heap.size w).alloc (Nat.le_refl _) _).alloc (by simp) _).alloc (by simp; omega) _).trans (hb1.mono (by simp; omega))
  have q0 := (B1.1 (w.heap.size + 1 + 1) 0 (by simp)).trans (cell_w w _ _ _ _ 0 _ rfl)
  have q1 := (B1.1 (w.heap.size + 1 + 1) 1 (by simp)).trans (cell_w w _ _ _ _ 1 _ rfl)
  have q2 := (B1.1 (w.heap.size + 1 + 1) 2 (by simp)).trans (cell_w w _ _ _ _ 2 _ rfl)
  have q3 := (B1.1 (w.heap.size + 1 + 1) 3 (by simp)).trans (cell_w w _ _ _ _ 3 _ rfl)
  have q4 := (B1.1 (w.heap.size + 1 + 1) 4 (by simp)).trans (cell_w w _ _ _ _ 4 _ rfl)
  have q5 := (B1.1 (w.heap.size + 1 + 1) 5 (by simp)).trans (cell_w w _ _ _ _ 5 _ rfl)
  have q6 := (B1.1 (w.heap.size + 1 + 1) 6 (by simp)).trans (cell_w w _ _ _ _ 6 _ rfl)
  have q7 := (B1.1 (w.heap.size + 1 + 1) 7 (by simp)).trans (cell_w w _ _ _ _ 7 _ rfl)
  clear B1 hown hb1 hcell H5 H7
  go_wp2_with fail
  refine HR.out.mono ?_
  clear HR
  rintro e w2 ⟨v, rfl, hF, hb2⟩
  have HB2 : Hid (Below w.heap.size w w2) := HB1.out.trans (hb2.mono (by omega))
  have r0 := cell_a1 (cell_below hb2 (by simp; omega) q0)
  have r1 := cell_a1 (cell_below hb2 (by simp; omega) q1)
  have r2 := cell_a1 (cell_below hb2 (by simp; omega) q2)
  have r3 := cell_a1 (cell_below hb2 (by simp; omega) q3)
  have r4 := cell_a1 (cell_below hb2 (by simp; omega) q4)
  have r5 := cell_a1 (cell_below hb2 (by simp; omega) q5)
  have r6 := cell_a1 (cell_below hb2 (by simp; omega) q6)
  have r7 := cell_a1 (cell_below hb2 (by simp; omega) q7)
  have hs2 := hb2.size
  clear q0 q1 q2 q3 q4 q5 q6 q7 hb2 HB1
  obtain rfl : v = .nilIface := hF
  go_wp2_with fail
  rw [HE.out]
  simp only [Result.andThen_ok, Bool.true_eq_false, if_false]
  go_wp2
  go_ret
  exact ⟨rfl, HB2.out.alloc (by omega) _⟩


set_option maxHeartbeats 4000000 in
set_option maxRecDepth 100000 in
theorem rt_large_tff_n (op : Nat) (x m0 m1 m2 m3 : Int) (h0 : (Lit.int .u8 m0).wf = true) (h1 : (Lit.int .u8 m1).wf = true) (h2 : (Lit.int .u8 m2).wf = true) (h3 : (Lit.int .u8 m3).wf = true) (N : Nat) (hN0 : 65535 < N) (hN : N ≤ 9223372036854775807) (w : World) (f5 : bits .and .u8 (op : Int) 8 = 0) (f6 : bits .and .u8 (op : Int) 15 = x) (L : List Int)
   (H5 : Hid (∀ W : World, Calls Yba.prog 5 #[.slice none 0 0, .agg #[.bool true, .int .u8 x, .bool false, .int .u8 m0, .int .u8 m1, .int .u8 m2, .int .u8 m3, .int .i64 N]] W fun e w' => ∃ v', e = .returned v' ∧ w'.ownsRow (W.heap.size + 1 + 1) 5 1 v' 10 (cellsZ L) ∧ Below W.heap.size W w'))
   (H7 : Hid (∀ (W : World) (g c : Nat), 10 ≤ c → c ≤ 9223372036854775807 → (∀ j, j < 10 → W.cell? ⟨g, 0 + j, none⟩ = some (.int .u8 (L.getD j 0))) →
     Calls Yba.prog 7 #[.slice (some ⟨g, 0, none⟩) 10 c] W fun e w' => ∃ v, e = .returned (.tuple #[.agg #[.bool true, .int .u8 x, .bool false, .int .u8 0, .int .u8 0, .int .u8 0, .int .u8 0, .int .i64 N], v]) ∧ Fault false v ∧ Below W.heap.size W w')) :
    Calls Yba.prog 4 #[.bool true, .int .u8 op, .bool false, .agg #[.int .u8 m0, .int .u8 m1, .int .u8 m2, .int .u8 m3], .int .i64 (-(N : Int) - 1)] w fun e w' => e = .returned (.bool true) ∧ Below w.heap.size w w' := by
  have HE : Hid (∀ W, (Op.equalIn 9999 23 (.agg #[.int .u8 0, .int .u8 0, .int .u8 0, .int .u8 0]) (.agg #[.int .u8 0, .int .u8 0, .int .u8 0, .int .u8 0])).run Yba.prog W = .ok true W) := fun W => eq_mask W _ _ _ _ rfl rfl rfl rfl
  clear h0 h1 h2 h3
  generalize hz : (-(N : Int) - 1) = z at *
  have z1 : z < 0 := by omega
  have z2 : -9223372036854775808 ≤ z := by omega
  have z3 : -(z + 1) = (N : Int) := by omega
  clear hz
  go_enter Yba.func4, Yba.ntmps4
  go_wp2_with fail
  refine (H5.out _).mono ?_
  rintro e w1 ⟨v1, rfl, hown, hb1⟩
  obtain ⟨g, c, rfl, hc, hc2, _, hgl, _, hcell⟩ := own_cells hown (by omega)
  have HR := hid (H7.out w1 g c hc hc2 hcell)
  have B1 := bcell hb1
  have hs1 := hb1.size
  simp at hs1
  have HB1 : Hid (Below w.heap.size w w1) := ((((Below.refl w.heap.size w).alloc (Nat.le_refl _) _).alloc (by simp) _).alloc (by simp; omega) _).trans (hb1.mono (by simp; omega))
  have q0 := (B1.1 (w.heap.size + 1 + 1) 0 (by simp)).trans (cell_w w _ _ _ _ 0 _ rfl)
  have q1 := (B1.1 (w.heap.size + 1 + 1) 1 (by simp)).trans (cell_w w _ _ _ _ 1 _ rfl)
  have q2 := (B1.1 (w.heap.size + 1 + 1) 2 (by simp)).trans (cell_w w _ _ _ _ 2 _ rfl)
  have q3 := (B1.1 (w.heap.size + 1 + 1) 3 (by simp)).trans (cell_w w _ _ _ _ 3 _ rfl)
  have q4 := (B1.1 (w.heap.size + 1 + 1) 4 (by simp)).trans (cell_w w _ _ _ _ 4 _ rfl)
  have q5 := (B1.1 (w.heap.size + 1 + 1) 5 (by simp)).trans (cell_w w _ _ _ _ 5 _ rfl)
  have q6 := (B1.1 (w.heap.size + 1 + 1) 6 (by simp)).trans (cell_w w _ _ _ _ 6 _ rfl)
  have q7 := (B1.1 (w.heap.size + 1 + 1) 7 (by simp)).trans (cell_w w _ _ _ _ 7 _ rfl)
  clear B1 hown hb1 hcell H5 H7
  go_wp2_with fail
  refine HR.out.mono ?_
  clear HR
  rintro e w2 ⟨v, rfl, hF, hb2⟩
  have HB2 : Hid (Below w.heap.size w w2) := HB1.out.trans (hb2.mono (by omega))
  have r0 := cell_a1 (cell_below hb2 (by simp; omega) q0)
  have r1 := cell_a1 (cell_below hb2 (by simp; omega) q1)
  have r2 := cell_a1 (cell_below hb2 (by simp; omega) q2)
  have r3 := cell_a1 (cell_below hb2 (by simp; omega) q3)
  have r4 := cell_a1 (cell_below hb2 (by simp; omega) q4)
  have r5 := cell_a1 (cell_below hb2 (by simp; omega) q5)
  have r6 := cell_a1 (cell_below hb2 (by simp; omega) q6)
  have r7 := cell_a1 (cell_below hb2 (by simp; omega) q7)
  have hs2 := hb2.size
  clear q0 q1 q2 q3 q4 q5 q6 q7 hb2 HB1
  obtain rfl : v = .nilIface := hF
  go_wp2_with fail
  rw [HE.out]
  simp only [Result.andThen_ok, Bool.true_eq_false, if_false]
  go_wp2
  go_ret
  exact ⟨rfl, HB2.out.alloc (by omega) _⟩


set_option maxHeartbeats 4000000 in
set_option maxRecDepth 100000 in
theorem rt_large_ftt_p (op : Nat) (x m0 m1 m2 m3 : Int) (h0 : (Lit.int .u8 m0).wf = true) (h1 : (Lit.int .u8 m1).wf = true) (h2 : (Lit.int .u8 m2).wf = true) (h3 : (Lit.int .u8 m3).wf = true) (N : Nat) (hN0 : 65535 < N) (hN : N ≤ 9223372036854775807) (w : World) (f5 : bits .and .u8 (op : Int) 8 = 8) (f6 : bits .and .u8 (op : Int) 15 = x) (L : List Int)
   (H5 : Hid (∀ W : World, Calls Yba.prog 5 #[.slice none 0 0, .agg #[.bool false, .int .u8 x, .bool true, .int .u8 m0, .int .u8 m1, .int .u8 m2, .int .u8 m3, .int .i64 N]] W fun e w' => ∃ v', e = .returned v' ∧ w'.ownsRow (W.heap.size + 1 + 1) 5 1 v' 14 (cellsZ L) ∧ Below W.heap.size W w'))
   (H7 : Hid (∀ (W : World) (g c : Nat), 14 ≤ c → c ≤ 9223372036854775807 → (∀ j, j < 14 → W.cell? ⟨g, 0 + j, none⟩ = some (.int .u8 (L.getD j 0))) →
     Calls Yba.prog 7 #[.slice (some ⟨g, 0, none⟩) 14 c] W fun e w' => ∃ v, e = .returned (.tuple #[.agg #[.bool false, .int .u8 x, .bool true, .int .u8 m0, .int .u8 m1, .int .u8 m2, .int .u8 m3, .int .i64 N], v]) ∧ Fault true v ∧ Below W.heap.size W w')) :
    Calls Yba.prog 4 #[.bool false, .int .u8 op, .bool true, .agg #[.int .u8 m0, .int .u8 m1, .int .u8 m2, .int .u8 m3], .int .i64 N] w fun e w' => e = .returned (.bool true) ∧ Below w.heap.size w w' := by
  have HE : Hid (∀ W, (Op.equalIn 9999 23 (.agg #[.int .u8 m0, .int .u8 m1, .int .u8 m2, .int .u8 m3]) (.agg #[.int .u8 m0, .int .u8 m1, .int .u8 m2, .int .u8 m3])).run Yba.prog W = .ok true W) := fun W => eq_mask W _ _ _ _ h0 h1 h2 h3
  clear h0 h1 h2 h3
  go_enter Yba.func4, Yba.ntmps4
  go_wp2_with fail
  refine (H5.out _).mono ?_
  rintro e w1 ⟨v1, rfl, hown, hb1⟩
  obtain ⟨g, c, rfl, hc, hc2, _, hgl, _, hcell⟩ := own_cells hown (by omega)
  have HR := hid (H7.out w1 g c hc hc2 hcell)
  have B1 := bcell hb1
  have hs1 := hb1.size
  simp at hs1
  have HB1 : Hid (Below w.heap.size w w1) := ((((Below.refl w.heap.size w).alloc (Nat.le_refl _) _).alloc (by simp) _).alloc (by simp; omega) _).trans (hb1.mono (by simp; omega))
  have q0 := (B1.1 (w.heap.size + 1 + 1) 0 (by simp)).trans (cell_w w _ _ _ _ 0 _ rfl)
  have q1 := (B1.1 (w.heap.size + 1 + 1) 1 (by simp)).trans (cell_w w _ _ _ _ 1 _ rfl)
  have q2 := (B1.1 (w.heap.size + 1 + 1) 2 (by simp)).trans (cell_w w _ _ _ _ 2 _ rfl)
  have q3 := (B1.1 (w.heap.size + 1 + 1) 3 (by simp)).trans (cell_w w _ _ _ _ 3 _ rfl)
  have q4 := (B1.1 (w.heap.size + 1 + 1) 4 (by simp)).trans (cell_w w _ _ _ _ 4 _ rfl)
  have q5 := (B1.1 (w.heap.size + 1 + 1) 5 (by simp)).trans (cell_w w _ _ _ _ 5 _ rfl)
  have q6 := (B1.1 (w.heap.size + 1 + 1) 6 (by simp)).trans (cell_w w _ _ _ _ 6 _ rfl)
  have q7 := (B1.1 (w.heap.size + 1 + 1) 7 (by simp)).trans (cell_w w _ _ _ _ 7 _ rfl)
  clear B1 hown hb1 hcell H5 H7
  go_wp2_with fail
  refine HR.out.mono ?_
  clear HR
  rintro e w2 ⟨v, rfl, hF, hb2⟩
  have HB2 : Hid (Below w.heap.size w w2) := HB1.out.trans (hb2.mono (by omega))
  have r0 := cell_a1 (cell_below hb2 (by simp; omega) q0)
  have r1 := cell_a1 (cell_below hb2 (by simp; omega) q1)
  have r2 := cell_a1 (cell_below hb2 (by simp; omega) q2)
  have r3 := cell_a1 (cell_below hb2 (by simp; omega) q3)
  have r4 := cell_a1 (cell_below hb2 (by simp; omega) q4)
  have r5 := cell_a1 (cell_below hb2 (by simp; omega) q5)
  have r6 := cell_a1 (cell_below hb2 (by simp; omega) q6)
  have r7 := cell_a1 (cell_below hb2 (by simp; omega) q7)
  have hs2 := hb2.size
  clear q0 q1 q2 q3 q4 q5 q6 q7 hb2 HB1
  obtain ⟨s, rfl⟩ := hF
  go_wp2
  go_ret
  exact ⟨rfl, HB2.out.alloc (by omega) _⟩


set_option maxHeartbeats 4000000 in
set_option maxRecDepth 100000 in
theorem rt_large_ftt_n (op : Nat) (x m0 m1 m2 m3 : Int) (h0 : (Lit.int .u8 m0).wf = true) (h1 : (Lit.int .u8 m1).wf = true) (h2 : (Lit.int .u8 m2).wf = true) (h3 : (Lit.int .u8 m3).wf = true) (N : Nat) (hN0 : 65535 < N) (hN : N ≤ 9223372036854775807) (w : World) (f5 : bits .and .u8 (op : Int) 8 = 8) (f6 : bits .and .u8 (op : Int) 15 = x) (L : List Int)
   (H5 : Hid (∀ W : World, Calls Yba.prog 5 #[.slice none 0 0, .agg #[.bool false, .int .u8 x, .bool true, .int .u8 m0, .int .u8 m1, .int .u8 m2, .int .u8 m3, .int .i64 N]] W fun e w' => ∃ v', e = .returned v' ∧ w'.ownsRow (W.heap.size + 1 + 1) 5 1 v' 14 (cellsZ L) ∧ Below W.heap.size W w'))
   (H7 : Hid (∀ (W : World) (g c : Nat), 14 ≤ c → c ≤ 9223372036854775807 → (∀ j, j < 14 → W.cell? ⟨g, 0 + j, none⟩ = some (.int .u8 (L.getD j 0))) →
     Calls Yba.prog 7 #[.slice (some ⟨g, 0, none⟩) 14 c] W fun e w' => ∃ v, e = .returned (.tuple #[.agg #[.bool false, .int .u8 x, .bool true, .int .u8 m0, .int .u8 m1, .int .u8 m2, .int .u8 m3, .int .i64 N], v]) ∧ Fault true v ∧ Below W.heap.size W w')) :
    Calls Yba.prog 4 #[.bool false, .int .u8 op, .bool true, .agg #[.int .u8 m0, .int .u8 m1, .int .u8 m2, .int .u8 m3], .int .i64 (-(N : Int) - 1)] w fun e w' => e = .returned (.bool true) ∧ Below w.heap.size w w' := by
  have HE : Hid (∀ W, (Op.equalIn 9999 23 (.agg #[.int .u8 m0, .int .u8 m1, .int .u8 m2, .int .u8 m3]) (.agg #[.int .u8 m0, .int .u8 m1, .int .u8 m2, .int .u8 m3])).run Yba.prog W = .ok true W) := fun W => eq_mask W _ _ _ _ h0 h1 h2 h3
  clear h0 h1 h2 h3
  generalize hz : (-(N : Int) - 1) = z at *
  have z1 : z < 0 := by omega
  have z2 : -9223372036854775808 ≤ z := by omega
  have z3 : -(z + 1) = (N : Int) := by omega
  clear hz
  go_enter Yba.func4, Yba.ntmps4
  go_wp2_with fail
  refine (H5.out _).mono ?_
  rintro e w1 ⟨v1, rfl, hown, hb1⟩
  obtain ⟨g, c, rfl, hc, hc2, _, hgl, _, hcell⟩ := own_cells hown (by omega)
  have HR := hid (H7.out w1 g c hc hc2 hcell)
  have B1 := bcell hb1
  have hs1 := hb1.size
  simp at hs1
  have HB1 : Hid (Below w.heap.size w w1) := ((((Below.refl w.heap.size w).alloc (Nat.le_refl _) _).alloc (by simp) _).alloc (by simp; omega) _).trans (hb1.mono (by simp; omega))
  have q0 := (B1.1 (w.heap.size + 1 + 1) 0 (by simp)).trans (cell_w w _ _ _ _ 0 _ rfl)
  have q1 := (B1.1 (w.heap.size + 1 + 1) 1 (by simp)).trans (cell_w w _ _ _ _ 1 _ rfl)
  have q2 := (B1.1 (w.heap.size + 1 + 1) 2 (by simp)).trans (cell_w w _ _ _ _ 2 _ rfl)
  have q3 := (B1.1 (w.heap.size + 1 + 1) 3 (by simp)).trans (cell_w w _ _ _ _ 3 _ rfl)
  have q4 := (B1.1 (w.heap.size + 1 + 1) 4 (by simp)).trans (cell_w w _ _ _ _ 4 _ rfl)
  have q5 := (B1.1 (w.heap.size + 1 + 1) 5 (by simp)).trans (cell_w w _ _ _ _ 5 _ rfl)
  have q6 := (B1.1 (w.heap.size + 1 + 1) 6 (by simp)).trans (cell_w w _ _ _ _ 6 _ rfl)
  have q7 := (B1.1 (w.heap.size + 1 + 1) 7 (by simp)).trans (cell_w w _ _ _ _ 7 _ rfl)
  clear B1 hown hb1 hcell H5 H7
  go_wp2_with fail
  refine HR.out.mono ?_
  clear HR
  rintro e w2 ⟨v, rfl, hF, hb2⟩
  have HB2 : Hid (Below w.heap.size w w2) := HB1.out.trans (hb2.mono (by omega))
  have r0 := cell_a1 (cell_below hb2 (by simp; omega) q0)
  have r1 := cell_a1 (cell_below hb2 (by simp; omega) q1)
  have r2 := cell_a1 (cell_below hb2 (by simp; omega) q2)
  have r3 := cell_a1 (cell_below hb2 (by simp; omega) q3)
  have r4 := cell_a1 (cell_below hb2 (by simp; omega) q4)
  have r5 := cell_a1 (cell_below hb2 (by simp; omega) q5)
  have r6 := cell_a1 (cell_below hb2 (by simp; omega) q6)
  have r7 := cell_a1 (cell_below hb2 (by simp; omega) q7)
  have hs2 := hb2.size
  clear q0 q1 q2 q3 q4 q5 q6 q7 hb2 HB1
  obtain ⟨s, rfl⟩ := hF
  go_wp2
  go_ret
  exact ⟨rfl, HB2.out.alloc (by omega) _⟩


set_option maxHeartbeats 4000000 in
set_option maxRecDepth 100000 in
theorem rt_large_ftf_p (op : Nat) (x m0 m1 m2 m3 : Int) (h0 : (Lit.int .u8 m0).wf = true) (h1 : (Lit.int .u8 m1).wf = true) (h2 : (Lit.int .u8 m2).wf = true) (h3 : (Lit.int .u8 m3).wf = true) (N : Nat) (hN0 : 65535 < N) (hN : N ≤ 9223372036854775807) (w : World) (f5 : bits .and .u8 (op : Int) 8 = 0) (f6 : bits .and .u8 (op : Int) 15 = x) (L : List Int)
   (H5 : Hid (∀ W : World, Calls Yba.prog 5 #[.slice none 0 0, .agg #[.bool false, .int .u8 x, .bool true, .int .u8 m0, .int .u8 m1, .int .u8 m2, .int .u8 m3, .int .i64 N]] W fun e w' => ∃ v', e = .returned v' ∧ w'.ownsRow (W.heap.size + 1 + 1) 5 1 v' 14 (cellsZ L) ∧ Below W.heap.size W w'))
   (H7 : Hid (∀ (W : World) (g c : Nat), 14 ≤ c → c ≤ 9223372036854775807 → (∀ j, j < 14 → W.cell? ⟨g, 0 + j, none⟩ = some (.int .u8 (L.getD j 0))) →
     Calls Yba.prog 7 #[.slice (some ⟨g, 0, none⟩) 14 c] W fun e w' => ∃ v, e = .returned (.tuple #[.agg #[.bool false, .int .u8 x, .bool true, .int .u8 m0, .int .u8 m1, .int .u8 m2, .int .u8 m3, .int .i64 N], v]) ∧ Fault false v ∧ Below W.heap.size W w')) :
    Calls Yba.prog 4 #[.bool false, .int .u8 op, .bool true, .agg #[.int .u8 m0, .int .u8 m1, .int .u8 m2, .int .u8 m3], .int .i64 N] w fun e w' => e = .returned (.bool true) ∧ Below w.heap.size w w' := by
  have HE : Hid (∀ W, (Op.equalIn 9999 23 (.agg #[.int .u8 m0, .int .u8 m1, .int .u8 m2, .int .u8 m3]) (.agg #[.int .u8 m0, .int .u8 m1, .int .u8 m2, .int .u8 m3])).run Yba.prog W = .ok true W) := fun W => eq_mask W _ _ _ _ h0 h1 h2 h3
  clear h0 h1 h2 h3
  go_enter Yba.func4, Yba.ntmps4
  go_wp2_with fail
  refine (H5.out _).mono ?_
  rintro e w1 ⟨v1, rfl, hown, hb1⟩
  obtain ⟨g, c, rfl, hc, hc2, _, hgl, _, hcell⟩ := own_cells hown (by omega)
  have HR := hid (H7.out w1 g c hc hc2 hcell)
  have B1 := bcell hb1
  have hs1 := hb1.size
  simp at hs1
  have HB1 : Hid (Below w.heap.size w w1) := ((((Below.refl w.heap.size w).alloc (Nat.le_refl _) _).alloc (by simp) _).alloc (by simp; omega) _).trans (hb1.mono (by simp; omega))
  have q0 := (B1.1 (w.heap.size + 1 + 1) 0 (by simp)).trans (cell_w w _ _ _ _ 0 _ rfl)
  have q1 := (B1.1 (w.heap.size + 1 + 1) 1 (by simp)).trans (cell_w w _ _ _ _ 1 _ rfl)
  have q2 := (B1.1 (w.heap.size + 1 + 1) 2 (by simp)).trans (cell_w w _ _ _ _ 2 _ rfl)
  have q3 := (B1.1 (w.heap.size + 1 + 1) 3 (by simp)).trans (cell_w w _ _ _ _ 3 _ rfl)
  have q4 := (B1.1 (w.heap.size + 1 + 1) 4 (by simp)).trans (cell_w w _ _ _ _ 4 _ rfl)
  have q5 := (B1.1 (w.heap.size + 1 + 1) 5 (by simp)).trans (cell_w w _ _ _ _ 5 _ rfl)
  have q6 := (B1.1 (w.heap.size + 1 + 1) 6 (by simp)).trans (cell_w w _ _ _ _ 6 _ rfl)
  have q7 := (B1.1 (w.heap.size + 1 + 1) 7 (by simp)).trans (cell_w w _ _ _ _ 7 _ rfl)
  clear B1 hown hb1 hcell H5 H7
  go_wp2_with fail
  refine HR.out.mono ?_
  clear HR
  rintro e w2 ⟨v, rfl, hF, hb2⟩
  have HB2 : Hid (Below w.heap.size w w2) := HB1.out.trans (hb2.mono (by omega))
  have r0 := cell_a1 (cell_below hb2 (by simp; omega) q0)
  have r1 := cell_a1 (cell_below hb2 (by simp; omega) q1)
  have r2 := cell_a1 (cell_below hb2 (by simp; omega) q2)
  have r3 := cell_a1 (cell_below hb2 (by simp; omega) q3)
  have r4 := cell_a1 (cell_below hb2 (by simp; omega) q4)
  have r5 := cell_a1 (cell_below hb2 (by simp; omega) q5)
  have r6 := cell_a1 (cell_below hb2 (by simp; omega) q6)
  have r7 := cell_a1 (cell_below hb2 (by simp; omega) q7)
  have hs2 := hb2.size
  clear q0 q1 q2 q3 q4 q5 q6 q7 hb2 HB1
  obtain rfl : v = .nilIface := hF
  go_wp2_with fail
  rw [HE.out]
  simp only [Result.andThen_ok, Bool.true_eq_false, if_false]
  go_wp2
  go_ret
  exact ⟨rfl, HB2.out.alloc (by omega) _⟩


set_option maxHeartbeats 4000000 in
set_option maxRecDepth 100000 in
theorem rt_large_ftf_n (op : Nat) (x m0 m1 m2 m3 : Int) (h0 : (Lit.int .u8 m0).wf = true) (h1 : (Lit.int .u8 m1).wf = true) (h2 : (Lit.int .u8 m2).wf = true) (h3 : (Lit.int .u8 m3).wf = true) (N : Nat) (hN0 : 65535 < N) (hN : N ≤ 9223372036854775807) (w : World) (f5 : bits .and .u8 (op : Int) 8 = 0) (f6 : bits .and .u8 (op : Int) 15 = x) (L : List Int)
   (H5 : Hid (∀ W : World, Calls Yba.prog 5 #[.slice none 0 0, .agg #[.bool false, .int .u8 x, .bool true, .int .u8 m0, .int .u8 m1, .int .u8 m2, .int .u8 m3, .int .i64 N]] W fun e w' => ∃ v', e = .returned v' ∧ w'.ownsRow (W.heap.size + 1 + 1) 5 1 v' 14 (cellsZ L) ∧ Below W.heap.size W w'))
   (H7 : Hid (∀ (W : World) (g c : Nat), 14 ≤ c → c ≤ 9223372036854775807 → (∀ j, j < 14 → W.cell? ⟨g, 0 + j, none⟩ = some (.int .u8 (L.getD j 0))) →
     Calls Yba.prog 7 #[.slice (some ⟨g, 0, none⟩) 14 c] W fun e w' => ∃ v, e = .returned (.tuple #[.agg #[.bool false, .int .u8 x, .bool true, .int .u8 m0, .int .u8 m1, .int .u8 m2, .int .u8 m3, .int .i64 N], v]) ∧ Fault false v ∧ Below W.heap.size W w')) :
    Calls Yba.prog 4 #[.bool false, .int .u8 op, .bool true, .agg #[.int .u8 m0, .int .u8 m1, .int .u8 m2, .int .u8 m3], .int .i64 (-(N : Int) - 1)] w fun e w' => e = .returned (.bool true) ∧ Below w.heap.size w w' := by
  have HE : Hid (∀ W, (Op.equalIn 9999 23 (.agg #[.int .u8 m0, .int .u8 m1, .int .u8 m2, .int .u8 m3]) (.agg #[.int .u8 m0, .int .u8 m1, .int .u8 m2, .int .u8 m3])).run Yba.prog W = .ok true W) := fun W => eq_mask W _ _ _ _ h0 h1 h2 h3
  clear h0 h1 h2 h3
  generalize hz : (-(N : Int) - 1) = z at *
  have z1 : z < 0 := by omega
  have z2 : -9223372036854775808 ≤ z := by omega
  have z3 : -(z + 1) = (N : Int) := by omega
  clear hz
  go_enter Yba.func4, Yba.ntmps4
  go_wp2_with fail
  refine (H5.out _).mono ?_
  rintro e w1 ⟨v1, rfl, hown, hb1⟩
  obtain ⟨g, c, rfl, hc, hc2, _, hgl, _, hcell⟩ := own_cells hown (by omega)
  have HR := hid (H7.out w1 g c hc hc2 hcell)
  have B1 := bcell hb1
  have hs1 := hb1.size
  simp at hs1
  have HB1 : Hid (Below w.heap.size w w1) := ((((Below.refl w.heap.size w).alloc (Nat.le_refl _) _).alloc (by simp) _).alloc (by simp; omega) _).trans (hb1.mono (by simp; omega))
  have q0 := (B1.1 (w.heap.size + 1 + 1) 0 (by simp)).trans (cell_w w _ _ _ _ 0 _ rfl)
  have q1 := (B1.1 (w.heap.size + 1 + 1) 1 (by simp)).trans (cell_w w _ _ _ _ 1 _ rfl)
  have q2 := (B1.1 (w.heap.size + 1 + 1) 2 (by simp)).trans (cell_w w _ _ _ _ 2 _ rfl)
  have q3 := (B1.1 (w.heap.size + 1 + 1) 3 (by simp)).trans (cell_w w _ _ _ _ 3 _ rfl)
  have q4 := (B1.1 (w.heap.size + 1 + 1) 4 (by simp)).trans (cell_w w _ _ _ _ 4 _ rfl)
  have q5 := (B1.1 (w.heap.size + 1 + 1) 5 (by simp)).trans (cell_w w _ _ _ _ 5 _ rfl)
  have q6 := (B1.1 (w.heap.size + 1 + 1) 6 (by simp)).trans (cell_w w _ _ _ _ 6 _ rfl)
  have q7 := (B1.1 (w.heap.size + 1 + 1) 7 (by simp)).trans (cell_w w _ _ _ _ 7 _ rfl)
  clear B1 hown hb1 hcell H5 H7
  go_wp2_with fail
  refine HR.out.mono ?_
  clear HR
  rintro e w2 ⟨v, rfl, hF, hb2⟩
  have HB2 : Hid (Below w.heap.size w w2) := HB1.out.trans (hb2.mono (by omega))
  have r0 := cell_a1 (cell_below hb2 (by simp; omega) q0)
  have r1 := cell_a1 (cell_below hb2 (by simp; omega) q1)
  have r2 := cell_a1 (cell_below hb2 (by simp; omega) q2)
  have r3 := cell_a1 (cell_below hb2 (by simp; omega) q3)
  have r4 := cell_a1 (cell_below hb2 (by simp; omega) q4)
  have r5 := cell_a1 (cell_below hb2 (by simp; omega) q5)
  have r6 := cell_a1 (cell_below hb2 (by simp; omega) q6)
  have r7 := cell_a1 (cell_below hb2 (by simp; omega) q7)
  have hs2 := hb2.size
  clear q0 q1 q2 q3 q4 q5 q6 q7 hb2 HB1
  obtain rfl : v = .nilIface := hF
  go_wp2_with fail
  rw [HE.out]
  simp only [Result.andThen_ok, Bool.true_eq_false, if_false]
  go_wp2
  go_ret
  exact ⟨rfl, HB2.out.alloc (by omega) _⟩


set_option maxHeartbeats 4000000 in
set_option maxRecDepth 100000 in
theorem rt_large_fft_p (op : Nat) (x m0 m1 m2 m3 : Int) (h0 : (Lit.int .u8 m0).wf = true) (h1 : (Lit.int .u8 m1).wf = true) (h2 : (Lit.int .u8 m2).wf = true) (h3 : (Lit.int .u8 m3).wf = true) (N : Nat) (hN0 : 65535 < N) (hN : N ≤ 9223372036854775807) (w : World) (f5 : bits .and .u8 (op : Int) 8 = 8) (f6 : bits .and .u8 (op : Int) 15 = x) (L : List Int)
   (H5 : Hid (∀ W : World, Calls Yba.prog 5 #[.slice none 0 0, .agg #[.bool false, .int .u8 x, .bool false, .int .u8 m0, .int .u8 m1, .int .u8 m2, .int .u8 m3, .int .i64 N]] W fun e w' => ∃ v', e = .returned v' ∧ w'.ownsRow (W.heap.size + 1 + 1) 5 1 v' 10 (cellsZ L) ∧ Below W.heap.size W w'))
   (H7 : Hid (∀ (W : World) (g c : Nat), 10 ≤ c → c ≤ 9223372036854775807 → (∀ j, j < 10 → W.cell? ⟨g, 0 + j, none⟩ = some (.int .u8 (L.getD j 0))) →
     Calls Yba.prog 7 #[.slice (some ⟨g, 0, none⟩) 10 c] W fun e w' => ∃ v, e = .returned (.tuple #[.agg #[.bool false, .int .u8 x, .bool false, .int .u8 0, .int .u8 0, .int .u8 0, .int .u8 0, .int .i64 N], v]) ∧ Fault true v ∧ Below W.heap.size W w')) :
    Calls Yba.prog 4 #[.bool false, .int .u8 op, .bool false, .agg #[.int .u8 m0, .int .u8 m1, .int .u8 m2, .int .u8 m3], .int .i64 N] w fun e w' => e = .returned (.bool true) ∧ Below w.heap.size w w' := by
  have HE : Hid (∀ W, (Op.equalIn 9999 23 (.agg #[.int .u8 0, .int .u8 0, .int .u8 0, .int .u8 0]) (.agg #[.int .u8 0, .int .u8 0, .int .u8 0, .int .u8 0])).run Yba.prog W = .ok true W) := fun W => eq_mask W _ _ _ _ rfl rfl rfl rfl
  clear h0 h1 h2 h3
  go_enter Yba.func4, Yba.ntmps4
  go_wp2_with fail
  refine (H5.out _).mono ?_
  rintro e w1 ⟨v1, rfl, hown, hb1⟩
  obtain ⟨g, c, rfl, hc, hc2, _, hgl, _, hcell⟩ := own_cells hown (by omega)
  have HR := hid (H7.out w1 g c hc hc2 hcell)
  have B1 := bcell hb1
  have hs1 := hb1.size
  simp at hs1
  have HB1 : Hid (Below w.heap.size w w1) := ((((Below.refl w.heap.size w).alloc (Nat.le_refl _) _).alloc (by simp) _).alloc (by simp; omega) _).trans (hb1.mono (by simp; omega))
  have q0 := (B1.1 (w.heap.size + 1 + 1) 0 (by simp)).trans (cell_w w _ _ _ _ 0 _ rfl)
  have q1 := (B1.1 (w.heap.size + 1 + 1) 1 (by simp)).trans (cell_w w _ _ _ _ 1 _ rfl)
  have q2 := (B1.1 (w.heap.size + 1 + 1) 2 (by simp)).trans (cell_w w _ _ _ _ 2 _ rfl)
  have q3 := (B1.1 (w.heap.size + 1 + 1) 3 (by simp)).trans (cell_w w _ _ _ _ 3 _ rfl)
  have q4 := (B1.1 (w.heap.size + 1 + 1) 4 (by simp)).trans (cell_w w _ _ _ _ 4 _ rfl)
  have q5 := (B1.1 (w.heap.size + 1 + 1) 5 (by simp)).trans (cell_w w _ _ _ _ 5 _ rfl)
  have q6 := (B1.1 (w.heap.size + 1 + 1) 6 (by simp)).trans (cell_w w _ _ _ _ 6 _ rfl)
  have q7 := (B1.1 (w.heap.size + 1 + 1) 7 (by simp)).trans (cell_w w _ _ _ _ 7 _ rfl)
  clear B1 hown hb1 hcell H5 H7
  go_wp2_with fail
  refine HR.out.mono ?_
  clear HR
  rintro e w2 ⟨v, rfl, hF, hb2⟩
  have HB2 : Hid (Below w.heap.size w w2) := HB1.out.trans (hb2.mono (by omega))
  have r0 := cell_a1 (cell_below hb2 (by simp; omega) q0)
  have r1 := cell_a1 (cell_below hb2 (by simp; omega) q1)
  have r2 := cell_a1 (cell_below hb2 (by simp; omega) q2)
  have r3 := cell_a1 (cell_below hb2 (by simp; omega) q3)
  have r4 := cell_a1 (cell_below hb2 (by simp; omega) q4)
  have r5 := cell_a1 (cell_below hb2 (by simp; omega) q5)
  have r6 := cell_a1 (cell_below hb2 (by simp; omega) q6)
  have r7 := cell_a1 (cell_below hb2 (by simp; omega) q7)
  have hs2 := hb2.size
  clear q0 q1 q2 q3 q4 q5 q6 q7 hb2 HB1
  obtain ⟨s, rfl⟩ := hF
  go_wp2
  go_ret
  exact ⟨rfl, HB2.out.alloc (by omega) _⟩


set_option maxHeartbeats 4000000 in
set_option maxRecDepth 100000 in
theorem rt_large_fft_n (op : Nat) (x m0 m1 m2 m3 : Int) (h0 : (Lit.int .u8 m0).wf = true) (h1 : (Lit.int .u8 m1).wf = true) (h2 : (Lit.int .u8 m2).wf = true) (h3 : (Lit.int .u8 m3).wf = true) (N : Nat) (hN0 : 65535 < N) (hN : N ≤ 9223372036854775807) (w : World) (f5 : bits .and .u8 (op : Int) 8 = 8) (f6 : bits .and .u8 (op : Int) 15 = x) (L : List Int)
   (H5 : Hid (∀ W : World, Calls Yba.prog 5 #[.slice none 0 0, .agg #[.bool false, .int .u8 x, .bool false, .int .u8 m0, .int .u8 m1, .int .u8 m2, .int .u8 m3, .int .i64 N]] W fun e w' => ∃ v', e = .returned v' ∧ w'.ownsRow (W.heap.size + 1 + 1) 5 1 v' 10 (cellsZ L) ∧ Below W.heap.size W w'))
   (H7 : Hid (∀ (W : World) (g c : Nat), 10 ≤ c → c ≤ 9223372036854775807 → (∀ j, j < 10 → W.cell? ⟨g, 0 + j, none⟩ = some (.int .u8 (L.getD j 0))) →
     Calls Yba.prog 7 #[.slice (some ⟨g, 0, none⟩) 10 c] W fun e w' => ∃ v, e = .returned (.tuple #[.agg #[.bool false, .int .u8 x, .bool false, .int .u8 0, .int .u8 0, .int .u8 0, .int .u8 0, .int .i64 N], v]) ∧ Fault true v ∧ Below W.heap.size W w')) :
    Calls Yba.prog 4 #[.bool false, .int .u8 op, .bool false, .agg #[.int .u8 m0, .int .u8 m1, .int .u8 m2, .int .u8 m3], .int .i64 (-(N : Int) - 1)] w fun e w' => e = .returned (.bool true) ∧ Below w.heap.size w w' := by
  have HE : Hid (∀ W, (Op.equalIn 9999 23 (.agg #[.int .u8 0, .int .u8 0, .int .u8 0, .int .u8 0]) (.agg #[.int .u8 0, .int .u8 0, .int .u8 0, .int .u8 0])).run Yba.prog W = .ok true W) := fun W => eq_mask W _ _ _ _ rfl rfl rfl rfl
  clear h0 h1 h2 h3
  generalize hz : (-(N : Int) - 1) = z at *
  have z1 : z < 0 := by omega
  have z2 : -9223372036854775808 ≤ z := by omega
  have z3 : -(z + 1) = (N : Int) := by omega
  clear hz
  go_enter Yba.func4, Yba.ntmps4
  go_wp2_with fail
  refine (H5.out _).mono ?_
  rintro e w1 ⟨v1, rfl, hown, hb1⟩
  obtain ⟨g, c, rfl, hc, hc2, _, hgl, _, hcell⟩ := own_cells hown (by omega)
  have HR := hid (H7.out w1 g c hc hc2 hcell)
  have B1 := bcell hb1
  have hs1 := hb1.size
  simp at hs1
  have HB1 : Hid (Below w.heap.size w w1) := ((((Below.refl w.heap.size w).alloc (Nat.le_refl _) _).alloc (by simp) _).alloc (by simp; omega) _).trans (hb1.mono (by simp; omega))
  have q0 := (B1.1 (w.heap.size + 1 + 1) 0 (by simp)).trans (cell_w w _ _ _ _ 0 _ rfl)
  have q1 := (B1.1 (w.heap.size + 1 + 1) 1 (by simp)).trans (cell_w w _ _ _ _ 1 _ rfl)
  have q2 := (B1.1 (w.heap.size + 1 + 1) 2 (by simp)).trans (cell_w w _ _ _ _ 2 _ rfl)
  have q3 := (B1.1 (w.heap.size + 1 + 1) 3 (by simp)).trans (cell_w w _ _ _ _ 3 _ rfl)
  have q4 := (B1.1 (w.heap.size + 1 + 1) 4 (by simp)).trans (cell_w w _ _ _ _ 4 _ rfl)
  have q5 := (B1.1 (w.heap.size + 1 + 1) 5 (by simp)).trans (cell_w w _ _ _ _ 5 _ rfl)
  have q6 := (B1.1 (w.heap.size + 1 + 1) 6 (by simp)).trans (cell_w w _ _ _ _ 6 _ rfl)
  have q7 := (B1.1 (w.heap.size + 1 + 1) 7 (by simp)).trans (cell_w w _ _ _ _ 7 _ rfl)
  clear B1 hown hb1 hcell H5 H7
  go_wp2_with fail
  refine HR.out.mono ?_
  clear HR
  rintro e w2 ⟨v, rfl, hF, hb2⟩
  have HB2 : Hid (Below w.heap.size w w2) := HB1.out.trans (hb2.mono (by omega))
  have r0 := cell_a1 (cell_below hb2 (by simp; omega) q0)
  have r1 := cell_a1 (cell_below hb2 (by simp; omega) q1)
  have r2 := cell_a1 (cell_below hb2 (by simp; omega) q2)
  have r3 := cell_a1 (cell_below hb2 (by simp; omega) q3)
  have r4 := cell_a1 (cell_below hb2 (by simp; omega) q4)
  have r5 := cell_a1 (cell_below hb2 (by simp; omega) q5)
  have r6 := cell_a1 (cell_below hb2 (by simp; omega) q6)
  have r7 := cell_a1 (cell_below hb2 (by simp; omega) q7)
  have hs2 := hb2.size
  clear q0 q1 q2 q3 q4 q5 q6 q7 hb2 HB1
  obtain ⟨s, rfl⟩ := hF
  go_wp2
  go_ret
  exact ⟨rfl, HB2.out.alloc (by omega) _⟩


set_option maxHeartbeats 4000000 in
set_option maxRecDepth 100000 in
theorem rt_large_fff_p (op : Nat) (x m0 m1 m2 m3 : Int) (h0 : (Lit.int .u8 m0).wf = true) (h1 : (Lit.int .u8 m1).wf = true) (h2 : (Lit.int .u8 m2).wf = true) (h3 : (Lit.int .u8 m3).wf = true) (N : Nat) (hN0 : 65535 < N) (hN : N ≤ 9223372036854775807) (w : World) (f5 : bits .and .u8 (op : Int) 8 = 0) (f6 : bits .and .u8 (op : Int) 15 = x) (L : List Int)
   (H5 : Hid (∀ W : World, Calls Yba.prog 5 #[.slice none 0 0, .agg #[.bool false, .int .u8 x, .bool false, .int .u8 m0, .int .u8 m1, .int .u8 m2, .int .u8 m3, .int .i64 N]] W fun e w' => ∃ v', e = .returned v' ∧ w'.ownsRow (W.heap.size + 1 + 1) 5 1 v' 10 (cellsZ L) ∧ Below W.heap.size W w'))
   (H7 : Hid (∀ (W : World) (g c : Nat), 10 ≤ c → c ≤ 9223372036854775807 → (∀ j, j < 10 → W.cell? ⟨g, 0 + j, none⟩ = some (.int .u8 (L.getD j 0))) →
     Calls Yba.prog 7 #[.slice (some ⟨g, 0, none⟩) 10 c] W fun e w' => ∃ v, e = .returned (.tuple #[.agg #[.bool false, .int .u8 x, .bool false, .int .u8 0, .int .u8 0, .int .u8 0, .int .u8 0, .int .i64 N], v]) ∧ Fault false v ∧ Below W.heap.size W w')) :
    Calls Yba.prog 4 #[.bool false, .int .u8 op, .bool false, .agg #[.int .u8 m0, .int .u8 m1, .int .u8 m2, .int .u8 m3], .int .i64 N] w fun e w' => e = .returned (.bool true) ∧ Below w.heap.size w w' := by
  have HE : Hid (∀ W, (Op.equalIn 9999 23 (.agg #[.int .u8 0, .int .u8 0, .int .u8 0, .int .u8 0]) (.agg #[.int .u8 0, .int .u8 0, .int .u8 0, .int .u8 0])).run Yba.prog W = .ok true W) := fun W => eq_mask W _ _ _ _ rfl rfl rfl rfl
  clear h0 h1 h2 h3
  go_enter Yba.func4, Yba.ntmps4
  go_wp2_with fail
  refine (H5.out _).mono ?_
  rintro e w1 ⟨v1, rfl, hown, hb1⟩
  obtain ⟨g, c, rfl, hc, hc2, _, hgl, _, hcell⟩ := own_cells hown (by omega)
  have HR := hid (H7.out w1 g c hc hc2 hcell)
  have B1 := bcell hb1
  have hs1 := hb1.size
  simp at hs1
  have HB1 : Hid (Below w.heap.size w w1) := ((((Below.refl w.heap.size w).alloc (Nat.le_refl _) _).alloc (by simp) _).alloc (by simp; omega) _).trans (hb1.mono (by simp; omega))
  have q0 := (B1.1 (w.heap.size + 1 + 1) 0 (by simp)).trans (cell_w w _ _ _ _ 0 _ rfl)
  have q1 := (B1.1 (w.heap.size + 1 + 1) 1 (by simp)).trans (cell_w w _ _ _ _ 1 _ rfl)
  have q2 := (B1.1 (w.heap.size + 1 + 1) 2 (by simp)).trans (cell_w w _ _ _ _ 2 _ rfl)
  have q3 := (B1.1 (w.heap.size + 1 + 1) 3 (by simp)).trans (cell_w w _ _ _ _ 3 _ rfl)
  have q4 := (B1.1 (w.heap.size + 1 + 1) 4 (by simp)).trans (cell_w w _ _ _ _ 4 _ rfl)
  have q5 := (B1.1 (w.heap.size + 1 + 1) 5 (by simp)).trans (cell_w w _ _ _ _ 5 _ rfl)
  have q6 := (B1.1 (w.heap.size + 1 + 1) 6 (by simp)).trans (cell_w w _ _ _ _ 6 _ rfl)
  have q7 := (B1.1 (w.heap.size + 1 + 1) 7 (by simp)).trans (cell_w w _ _ _ _ 7 _ rfl)
  clear B1 hown hb1 hcell H5 H7
  go_wp2_with fail
  refine HR.out.mono ?_
  clear HR
  rintro e w2 ⟨v, rfl, hF, hb2⟩
  have HB2 : Hid (Below w.heap.size w w2) := HB1.out.trans (hb2.mono (by omega))
  have r0 := cell_a1 (cell_below hb2 (by simp; omega) q0)
  have r1 := cell_a1 (cell_below hb2 (by simp; omega) q1)
  have r2 := cell_a1 (cell_below hb2 (by simp; omega) q2)
  have r3 := cell_a1 (cell_below hb2 (by simp; omega) q3)
  have r4 := cell_a1 (cell_below hb2 (by simp; omega) q4)
  have r5 := cell_a1 (cell_below hb2 (by simp; omega) q5)
  have r6 := cell_a1 (cell_below hb2 (by simp; omega) q6)
  have r7 := cell_a1 (cell_below hb2 (by simp; omega) q7)
  have hs2 := hb2.size
  clear q0 q1 q2 q3 q4 q5 q6 q7 hb2 HB1
  obtain rfl : v = .nilIface := hF
  go_wp2_with fail
  rw [HE.out]
  simp only [Result.andThen_ok, Bool.true_eq_false, if_false]
  go_wp2
  go_ret
  exact ⟨rfl, HB2.out.alloc (by omega) _⟩


set_option maxHeartbeats 4000000 in
set_option maxRecDepth 100000 in
theorem rt_large_fff_n (op : Nat) (x m0 m1 m2 m3 : Int) (h0 : (Lit.int .u8 m0).wf = true) (h1 : (Lit.int .u8 m1).wf = true) (h2 : (Lit.int .u8 m2).wf = true) (h3 : (Lit.int .u8 m3).wf = true) (N : Nat) (hN0 : 65535 < N) (hN : N ≤ 9223372036854775807) (w : World) (f5 : bits .and .u8 (op : Int) 8 = 0) (f6 : bits .and .u8 (op : Int) 15 = x) (L : List Int)
   (H5 : Hid (∀ W : World, Calls Yba.prog 5 #[.slice none 0 0, .agg #[.bool false, .int .u8 x, .bool false, .int .u8 m0, .int .u8 m1, .int .u8 m2, .int .u8 m3, .int .i64 N]] W fun e w' => ∃ v', e = .returned v' ∧ w'.ownsRow (W.heap.size + 1 + 1) 5 1 v' 10 (cellsZ L) ∧ Below W.heap.size W w'))
   (H7 : Hid (∀ (W : World) (g c : Nat), 10 ≤ c → c ≤ 9223372036854775807 → (∀ j, j < 10 → W.cell? ⟨g, 0 + j, none⟩ = some (.int .u8 (L.getD j 0))) →
     Calls Yba.prog 7 #[.slice (some ⟨g, 0, none⟩) 10 c] W fun e w' => ∃ v, e = .returned (.tuple #[.agg #[.bool false, .int .u8 x, .bool false, .int .u8 0, .int .u8 0, .int .u8 0, .int .u8 0, .int .i64 N], v]) ∧ Fault false v ∧ Below W.heap.size W w')) :
    Calls Yba.prog 4 #[.bool false, .int .u8 op, .bool false, .agg #[.int .u8 m0, .int .u8 m1, .int .u8 m2, .int .u8 m3], .int .i64 (-(N : Int) - 1)] w fun e w' => e = .returned (.bool true) ∧ Below w.heap.size w w' := by
  have HE : Hid (∀ W, (Op.equalIn 9999 23 (.agg #[.int .u8 0, .int .u8 0, .int .u8 0, .int .u8 0]) (.agg #[.int .u8 0, .int .u8 0, .int .u8 0, .int .u8 0])).run Yba.prog W = .ok true W) := fun W => eq_mask W _ _ _ _ rfl rfl rfl rfl
  clear h0 h1 h2 h3
  generalize hz : (-(N : Int) - 1) = z at *
  have z1 : z < 0 := by omega
  have z2 : -9223372036854775808 ≤ z := by omega
  have z3 : -(z + 1) = (N : Int) := by omega
  clear hz
  go_enter Yba.func4, Yba.ntmps4
  go_wp2_with fail
  refine (H5.out _).mono ?_
  rintro e w1 ⟨v1, rfl, hown, hb1⟩
  obtain ⟨g, c, rfl, hc, hc2, _, hgl, _, hcell⟩ := own_cells hown (by omega)
  have HR := hid (H7.out w1 g c hc hc2 hcell)
  have B1 := bcell hb1
  have hs1 := hb1.size
  simp at hs1
  have HB1 : Hid (Below w.heap.size w w1) := ((((Below.refl w.heap.size w).alloc (Nat.le_refl _) _).alloc (by simp) _).alloc (by simp; omega) _).trans (hb1.mono (by simp; omega))
  have q0 := (B1.1 (w.heap.size + 1 + 1) 0 (by simp)).trans (cell_w w _ _ _ _ 0 _ rfl)
  have q1 := (B1.1 (w.heap.size + 1 + 1) 1 (by simp)).trans (cell_w w _ _ _ _ 1 _ rfl)
  have q2 := (B1.1 (w.heap.size + 1 + 1) 2 (by simp)).trans (cell_w w _ _ _ _ 2 _ rfl)
  have q3 := (B1.1 (w.heap.size + 1 + 1) 3 (by simp)).trans (cell_w w _ _ _ _ 3 _ rfl)
  have q4 := (B1.1 (w.heap.size + 1 + 1) 4 (by simp)).trans (cell_w w _ _ _ _ 4 _ rfl)
  have q5 := (B1.1 (w.heap.size + 1 + 1) 5 (by simp)).trans (cell_w w _ _ _ _ 5 _ rfl)
  have q6 := (B1.1 (w.heap.size + 1 + 1) 6 (by simp)).trans (cell_w w _ _ _ _ 6 _ rfl)
  have q7 := (B1.1 (w.heap.size + 1 + 1) 7 (by simp)).trans (cell_w w _ _ _ _ 7 _ rfl)
  clear B1 hown hb1 hcell H5 H7
  go_wp2_with fail
  refine HR.out.mono ?_
  clear HR
  rintro e w2 ⟨v, rfl, hF, hb2⟩
  have HB2 : Hid (Below w.heap.size w w2) := HB1.out.trans (hb2.mono (by omega))
  have r0 := cell_a1 (cell_below hb2 (by simp; omega) q0)
  have r1 := cell_a1 (cell_below hb2 (by simp; omega) q1)
  have r2 := cell_a1 (cell_below hb2 (by simp; omega) q2)
  have r3 := cell_a1 (cell_below hb2 (by simp; omega) q3)
  have r4 := cell_a1 (cell_below hb2 (by simp; omega) q4)
  have r5 := cell_a1 (cell_below hb2 (by simp; omega) q5)
  have r6 := cell_a1 (cell_below hb2 (by simp; omega) q6)
  have r7 := cell_a1 (cell_below hb2 (by simp; omega) q7)
  have hs2 := hb2.size
  clear q0 q1 q2 q3 q4 q5 q6 q7 hb2 HB1
  obtain rfl : v = .nilIface := hF
  go_wp2_with fail
  rw [HE.out]
  simp only [Result.andThen_ok, Bool.true_eq_false, if_false]
  go_wp2
  go_ret
  exact ⟨rfl, HB2.out.alloc (by omega) _⟩


end Go.Proofs.Ybulkbuhs
