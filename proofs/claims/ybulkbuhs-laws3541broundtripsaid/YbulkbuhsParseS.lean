/- parseFrameHeader at a header of the short form. -/
import Derived.Test.YbulkbuhsParse0
namespace Go.Proofs.Ybulkbuhs
open Go.RowKit
set_option linter.unusedVariables false
set_option linter.unusedSimpArgs false

set_option maxHeartbeats 2000000 in
set_option maxRecDepth 100000 in
theorem parse_small_ttt (g c : Nat) (z0 y o len : Int) (m0 m1 m2 m3 : Int) (w : World) (hc : 6 ≤ c) (hc2 : c ≤ 9223372036854775807)
    (f1 : bits .and .u8 z0 128 = 128) (f2 : bits .and .u8 z0 15 = o) (f3 : bits .and .u8 y 128 = 128) (f4 : bits .and .u8 y 127 = len) (hl0 : 0 ≤ len) (hl : len ≤ 125) (f5 : bits .and .u8 o 8 = 8)
    (c0 : w.cell? ⟨g, 0, none⟩ = some (.int .u8 z0)) (c1 : w.cell? ⟨g, 1, none⟩ = some (.int .u8 y))
    (c2 : w.cell? ⟨g, 2, none⟩ = some (.int .u8 m0)) (c3 : w.cell? ⟨g, 3, none⟩ = some (.int .u8 m1)) (c4 : w.cell? ⟨g, 4, none⟩ = some (.int .u8 m2)) (c5 : w.cell? ⟨g, 5, none⟩ = some (.int .u8 m3)) :
    Calls Yba.prog 7 #[.slice (some ⟨g, 0, none⟩) 6 c] w fun e w' => ∃ v, e = .returned (.tuple #[.agg #[.bool true, .int .u8 o, .bool true, .int .u8 m0, .int .u8 m1, .int .u8 m2, .int .u8 m3, .int .i64 len], v]) ∧ Fault false v ∧ Below w.heap.size w w' := by
  have d0 := cell_a1 c0
  have d1 := cell_a1 c1
  have e0 := cell_a2 c0
  have e1 := cell_a2 c1
  have hc3 : ¬ c = 2 := by omega
  have H2 : Hid (∀ x y : Obj, ((w.alloc x).alloc y).drew.cell? ⟨g, 2, none⟩ = some (.int .u8 m0)) := fun x y => cell_a2 c2 x y
  have H3 : Hid (∀ x y : Obj, ((w.alloc x).alloc y).drew.cell? ⟨g, 3, none⟩ = some (.int .u8 m1)) := fun x y => cell_a2 c3 x y
  have H4 : Hid (∀ x y : Obj, ((w.alloc x).alloc y).drew.cell? ⟨g, 4, none⟩ = some (.int .u8 m2)) := fun x y => cell_a2 c4 x y
  have H5 : Hid (∀ x y : Obj, ((w.alloc x).alloc y).drew.cell? ⟨g, 5, none⟩ = some (.int .u8 m3)) := fun x y => cell_a2 c5 x y
  clear c2 c3 c4 c5
  go_enter Yba.func7, Yba.ntmps7
  go_wp2_with fail
  go_region
  go_wp2_with fail
  rw [run_copy4 _ (w.heap.size + 1) 3 g 2 (c - 2) m0 m1 m2 m3 _ _ _ _ (H2.out _ _) (H3.out _ _) (H4.out _ _) (H5.out _ _) (by simp; rfl) (by simp; rfl) (by simp; rfl) (by simp; rfl) (by simp) (by simp) (by simp) (by simp)]
  go_wp2_with (go_at_call 13; refine (ctl_any _ _).mono ?_; rintro e w' ⟨rfl, rfl⟩)
  all_goals
    refine bodyPost_ret (v := .tuple #[.agg #[.bool true, .int .u8 o, .bool true, .int .u8 m0, .int .u8 m1, .int .u8 m2, .int .u8 m3, .int .i64 len], .nilIface]) (by simp [results, Yba.results7, go_sem]) rfl ⟨_, rfl, Fault.ok, ?_⟩
    exact (((Below.refl w.heap.size w).alloc (Nat.le_refl _) _).alloc (by simp) _).drew

set_option maxHeartbeats 2000000 in
set_option maxRecDepth 100000 in
theorem parse_small_ttf (g c : Nat) (z0 y o len : Int) (m0 m1 m2 m3 : Int) (w : World) (hc : 6 ≤ c) (hc2 : c ≤ 9223372036854775807)
    (f1 : bits .and .u8 z0 128 = 128) (f2 : bits .and .u8 z0 15 = o) (f3 : bits .and .u8 y 128 = 128) (f4 : bits .and .u8 y 127 = len) (hl0 : 0 ≤ len) (hl : len ≤ 125) (f5 : bits .and .u8 o 8 = 0)
    (c0 : w.cell? ⟨g, 0, none⟩ = some (.int .u8 z0)) (c1 : w.cell? ⟨g, 1, none⟩ = some (.int .u8 y))
    (c2 : w.cell? ⟨g, 2, none⟩ = some (.int .u8 m0)) (c3 : w.cell? ⟨g, 3, none⟩ = some (.int .u8 m1)) (c4 : w.cell? ⟨g, 4, none⟩ = some (.int .u8 m2)) (c5 : w.cell? ⟨g, 5, none⟩ = some (.int .u8 m3)) :
    Calls Yba.prog 7 #[.slice (some ⟨g, 0, none⟩) 6 c] w fun e w' => ∃ v, e = .returned (.tuple #[.agg #[.bool true, .int .u8 o, .bool true, .int .u8 m0, .int .u8 m1, .int .u8 m2, .int .u8 m3, .int .i64 len], v]) ∧ Fault false v ∧ Below w.heap.size w w' := by
  have d0 := cell_a1 c0
  have d1 := cell_a1 c1
  have e0 := cell_a2 c0
  have e1 := cell_a2 c1
  have hc3 : ¬ c = 2 := by omega
  have H2 : Hid (∀ x y : Obj, ((w.alloc x).alloc y).drew.cell? ⟨g, 2, none⟩ = some (.int .u8 m0)) := fun x y => cell_a2 c2 x y
  have H3 : Hid (∀ x y : Obj, ((w.alloc x).alloc y).drew.cell? ⟨g, 3, none⟩ = some (.int .u8 m1)) := fun x y => cell_a2 c3 x y
  have H4 : Hid (∀ x y : Obj, ((w.alloc x).alloc y).drew.cell? ⟨g, 4, none⟩ = some (.int .u8 m2)) := fun x y => cell_a2 c4 x y
  have H5 : Hid (∀ x y : Obj, ((w.alloc x).alloc y).drew.cell? ⟨g, 5, none⟩ = some (.int .u8 m3)) := fun x y => cell_a2 c5 x y
  clear c2 c3 c4 c5
  go_enter Yba.func7, Yba.ntmps7
  go_wp2_with fail
  go_region
  go_wp2_with fail
  rw [run_copy4 _ (w.heap.size + 1) 3 g 2 (c - 2) m0 m1 m2 m3 _ _ _ _ (H2.out _ _) (H3.out _ _) (H4.out _ _) (H5.out _ _) (by simp; rfl) (by simp; rfl) (by simp; rfl) (by simp; rfl) (by simp) (by simp) (by simp) (by simp)]
  go_wp2_with (go_at_call 13; refine (ctl_any _ _).mono ?_; rintro e w' ⟨rfl, rfl⟩)
  all_goals
    refine bodyPost_ret (v := .tuple #[.agg #[.bool true, .int .u8 o, .bool true, .int .u8 m0, .int .u8 m1, .int .u8 m2, .int .u8 m3, .int .i64 len], .nilIface]) (by simp [results, Yba.results7, go_sem]) rfl ⟨_, rfl, Fault.ok, ?_⟩
    exact (((Below.refl w.heap.size w).alloc (Nat.le_refl _) _).alloc (by simp) _).drew

set_option maxHeartbeats 2000000 in
set_option maxRecDepth 100000 in
theorem parse_small_tft (g c : Nat) (z0 y o len : Int) (w : World) (hc : 2 ≤ c) (hc2 : c ≤ 9223372036854775807)
    (f1 : bits .and .u8 z0 128 = 128) (f2 : bits .and .u8 z0 15 = o) (f3 : bits .and .u8 y 128 = 0) (f4 : bits .and .u8 y 127 = len) (hl0 : 0 ≤ len) (hl : len ≤ 125) (f5 : bits .and .u8 o 8 = 8)
    (c0 : w.cell? ⟨g, 0, none⟩ = some (.int .u8 z0)) (c1 : w.cell? ⟨g, 1, none⟩ = some (.int .u8 y)) :
    Calls Yba.prog 7 #[.slice (some ⟨g, 0, none⟩) 2 c] w fun e w' => ∃ v, e = .returned (.tuple #[.agg #[.bool true, .int .u8 o, .bool false, .int .u8 0, .int .u8 0, .int .u8 0, .int .u8 0, .int .i64 len], v]) ∧ Fault false v ∧ Below w.heap.size w w' := by
  have d0 := cell_a1 c0
  have d1 := cell_a1 c1
  have e0 := cell_a2 c0
  have e1 := cell_a2 c1
  go_enter Yba.func7, Yba.ntmps7
  go_wp2_with fail
  go_region
  go_wp2_with (go_at_call 13; refine (ctl_any _ _).mono ?_; rintro e w' ⟨rfl, rfl⟩)
  all_goals
    refine bodyPost_ret (v := .tuple #[.agg #[.bool true, .int .u8 o, .bool false, .int .u8 0, .int .u8 0, .int .u8 0, .int .u8 0, .int .i64 len], .nilIface]) (by simp [results, Yba.results7, go_sem]) rfl ⟨_, rfl, Fault.ok, ?_⟩
    exact (((Below.refl w.heap.size w).alloc (Nat.le_refl _) _).alloc (by simp) _).drew

set_option maxHeartbeats 2000000 in
set_option maxRecDepth 100000 in
theorem parse_small_tff (g c : Nat) (z0 y o len : Int) (w : World) (hc : 2 ≤ c) (hc2 : c ≤ 9223372036854775807)
    (f1 : bits .and .u8 z0 128 = 128) (f2 : bits .and .u8 z0 15 = o) (f3 : bits .and .u8 y 128 = 0) (f4 : bits .and .u8 y 127 = len) (hl0 : 0 ≤ len) (hl : len ≤ 125) (f5 : bits .and .u8 o 8 = 0)
    (c0 : w.cell? ⟨g, 0, none⟩ = some (.int .u8 z0)) (c1 : w.cell? ⟨g, 1, none⟩ = some (.int .u8 y)) :
    Calls Yba.prog 7 #[.slice (some ⟨g, 0, none⟩) 2 c] w fun e w' => ∃ v, e = .returned (.tuple #[.agg #[.bool true, .int .u8 o, .bool false, .int .u8 0, .int .u8 0, .int .u8 0, .int .u8 0, .int .i64 len], v]) ∧ Fault false v ∧ Below w.heap.size w w' := by
  have d0 := cell_a1 c0
  have d1 := cell_a1 c1
  have e0 := cell_a2 c0
  have e1 := cell_a2 c1
  go_enter Yba.func7, Yba.ntmps7
  go_wp2_with fail
  go_region
  go_wp2_with (go_at_call 13; refine (ctl_any _ _).mono ?_; rintro e w' ⟨rfl, rfl⟩)
  all_goals
    refine bodyPost_ret (v := .tuple #[.agg #[.bool true, .int .u8 o, .bool false, .int .u8 0, .int .u8 0, .int .u8 0, .int .u8 0, .int .i64 len], .nilIface]) (by simp [results, Yba.results7, go_sem]) rfl ⟨_, rfl, Fault.ok, ?_⟩
    exact (((Below.refl w.heap.size w).alloc (Nat.le_refl _) _).alloc (by simp) _).drew

set_option maxHeartbeats 2000000 in
set_option maxRecDepth 100000 in
theorem parse_small_ftt (g c : Nat) (z0 y o len : Int) (m0 m1 m2 m3 : Int) (w : World) (hc : 6 ≤ c) (hc2 : c ≤ 9223372036854775807)
    (f1 : bits .and .u8 z0 128 = 0) (f2 : bits .and .u8 z0 15 = o) (f3 : bits .and .u8 y 128 = 128) (f4 : bits .and .u8 y 127 = len) (hl0 : 0 ≤ len) (hl : len ≤ 125) (f5 : bits .and .u8 o 8 = 8)
    (c0 : w.cell? ⟨g, 0, none⟩ = some (.int .u8 z0)) (c1 : w.cell? ⟨g, 1, none⟩ = some (.int .u8 y))
    (c2 : w.cell? ⟨g, 2, none⟩ = some (.int .u8 m0)) (c3 : w.cell? ⟨g, 3, none⟩ = some (.int .u8 m1)) (c4 : w.cell? ⟨g, 4, none⟩ = some (.int .u8 m2)) (c5 : w.cell? ⟨g, 5, none⟩ = some (.int .u8 m3)) :
    Calls Yba.prog 7 #[.slice (some ⟨g, 0, none⟩) 6 c] w fun e w' => ∃ v, e = .returned (.tuple #[.agg #[.bool false, .int .u8 o, .bool true, .int .u8 m0, .int .u8 m1, .int .u8 m2, .int .u8 m3, .int .i64 len], v]) ∧ Fault true v ∧ Below w.heap.size w w' := by
  have d0 := cell_a1 c0
  have d1 := cell_a1 c1
  have e0 := cell_a2 c0
  have e1 := cell_a2 c1
  have hc3 : ¬ c = 2 := by omega
  have H2 : Hid (∀ x y : Obj, ((w.alloc x).alloc y).drew.cell? ⟨g, 2, none⟩ = some (.int .u8 m0)) := fun x y => cell_a2 c2 x y
  have H3 : Hid (∀ x y : Obj, ((w.alloc x).alloc y).drew.cell? ⟨g, 3, none⟩ = some (.int .u8 m1)) := fun x y => cell_a2 c3 x y
  have H4 : Hid (∀ x y : Obj, ((w.alloc x).alloc y).drew.cell? ⟨g, 4, none⟩ = some (.int .u8 m2)) := fun x y => cell_a2 c4 x y
  have H5 : Hid (∀ x y : Obj, ((w.alloc x).alloc y).drew.cell? ⟨g, 5, none⟩ = some (.int .u8 m3)) := fun x y => cell_a2 c5 x y
  clear c2 c3 c4 c5
  go_enter Yba.func7, Yba.ntmps7
  go_wp2_with fail
  go_region
  go_wp2_with fail
  rw [run_copy4 _ (w.heap.size + 1) 3 g 2 (c - 2) m0 m1 m2 m3 _ _ _ _ (H2.out _ _) (H3.out _ _) (H4.out _ _) (H5.out _ _) (by simp; rfl) (by simp; rfl) (by simp; rfl) (by simp; rfl) (by simp) (by simp) (by simp) (by simp)]
  go_wp2_with (go_at_call 13; refine (ctl_any _ _).mono ?_; rintro e w' ⟨rfl, rfl⟩)
  all_goals
    go_region_with (go_at_call 12; refine (perr_any _ _).mono ?_; rintro e w' ⟨rfl, rfl⟩)
    all_goals
      go_wp2
      refine bodyPost_ret (v := .tuple #[.agg #[.bool false, .int .u8 o, .bool true, .int .u8 m0, .int .u8 m1, .int .u8 m2, .int .u8 m3, .int .i64 len], .iface 48 (.agg #[.int .u16 1002, .string _])]) (by simp [results, Yba.results7, go_sem]; rfl) rfl ⟨_, rfl, Fault.bad _, ?_⟩
      exact ((((Below.refl w.heap.size w).alloc (Nat.le_refl _) _).alloc (by simp) _).drew).drew

set_option maxHeartbeats 2000000 in
set_option maxRecDepth 100000 in
theorem parse_small_ftf (g c : Nat) (z0 y o len : Int) (m0 m1 m2 m3 : Int) (w : World) (hc : 6 ≤ c) (hc2 : c ≤ 9223372036854775807)
    (f1 : bits .and .u8 z0 128 = 0) (f2 : bits .and .u8 z0 15 = o) (f3 : bits .and .u8 y 128 = 128) (f4 : bits .and .u8 y 127 = len) (hl0 : 0 ≤ len) (hl : len ≤ 125) (f5 : bits .and .u8 o 8 = 0)
    (c0 : w.cell? ⟨g, 0, none⟩ = some (.int .u8 z0)) (c1 : w.cell? ⟨g, 1, none⟩ = some (.int .u8 y))
    (c2 : w.cell? ⟨g, 2, none⟩ = some (.int .u8 m0)) (c3 : w.cell? ⟨g, 3, none⟩ = some (.int .u8 m1)) (c4 : w.cell? ⟨g, 4, none⟩ = some (.int .u8 m2)) (c5 : w.cell? ⟨g, 5, none⟩ = some (.int .u8 m3)) :
    Calls Yba.prog 7 #[.slice (some ⟨g, 0, none⟩) 6 c] w fun e w' => ∃ v, e = .returned (.tuple #[.agg #[.bool false, .int .u8 o, .bool true, .int .u8 m0, .int .u8 m1, .int .u8 m2, .int .u8 m3, .int .i64 len], v]) ∧ Fault false v ∧ Below w.heap.size w w' := by
  have d0 := cell_a1 c0
  have d1 := cell_a1 c1
  have e0 := cell_a2 c0
  have e1 := cell_a2 c1
  have hc3 : ¬ c = 2 := by omega
  have H2 : Hid (∀ x y : Obj, ((w.alloc x).alloc y).drew.cell? ⟨g, 2, none⟩ = some (.int .u8 m0)) := fun x y => cell_a2 c2 x y
  have H3 : Hid (∀ x y : Obj, ((w.alloc x).alloc y).drew.cell? ⟨g, 3, none⟩ = some (.int .u8 m1)) := fun x y => cell_a2 c3 x y
  have H4 : Hid (∀ x y : Obj, ((w.alloc x).alloc y).drew.cell? ⟨g, 4, none⟩ = some (.int .u8 m2)) := fun x y => cell_a2 c4 x y
  have H5 : Hid (∀ x y : Obj, ((w.alloc x).alloc y).drew.cell? ⟨g, 5, none⟩ = some (.int .u8 m3)) := fun x y => cell_a2 c5 x y
  clear c2 c3 c4 c5
  go_enter Yba.func7, Yba.ntmps7
  go_wp2_with fail
  go_region
  go_wp2_with fail
  rw [run_copy4 _ (w.heap.size + 1) 3 g 2 (c - 2) m0 m1 m2 m3 _ _ _ _ (H2.out _ _) (H3.out _ _) (H4.out _ _) (H5.out _ _) (by simp; rfl) (by simp; rfl) (by simp; rfl) (by simp; rfl) (by simp) (by simp) (by simp) (by simp)]
  go_wp2_with (go_at_call 13; refine (ctl_any _ _).mono ?_; rintro e w' ⟨rfl, rfl⟩)
  all_goals
    refine bodyPost_ret (v := .tuple #[.agg #[.bool false, .int .u8 o, .bool true, .int .u8 m0, .int .u8 m1, .int .u8 m2, .int .u8 m3, .int .i64 len], .nilIface]) (by simp [results, Yba.results7, go_sem]) rfl ⟨_, rfl, Fault.ok, ?_⟩
    exact (((Below.refl w.heap.size w).alloc (Nat.le_refl _) _).alloc (by simp) _).drew

set_option maxHeartbeats 2000000 in
set_option maxRecDepth 100000 in
theorem parse_small_fft (g c : Nat) (z0 y o len : Int) (w : World) (hc : 2 ≤ c) (hc2 : c ≤ 9223372036854775807)
    (f1 : bits .and .u8 z0 128 = 0) (f2 : bits .and .u8 z0 15 = o) (f3 : bits .and .u8 y 128 = 0) (f4 : bits .and .u8 y 127 = len) (hl0 : 0 ≤ len) (hl : len ≤ 125) (f5 : bits .and .u8 o 8 = 8)
    (c0 : w.cell? ⟨g, 0, none⟩ = some (.int .u8 z0)) (c1 : w.cell? ⟨g, 1, none⟩ = some (.int .u8 y)) :
    Calls Yba.prog 7 #[.slice (some ⟨g, 0, none⟩) 2 c] w fun e w' => ∃ v, e = .returned (.tuple #[.agg #[.bool false, .int .u8 o, .bool false, .int .u8 0, .int .u8 0, .int .u8 0, .int .u8 0, .int .i64 len], v]) ∧ Fault true v ∧ Below w.heap.size w w' := by
  have d0 := cell_a1 c0
  have d1 := cell_a1 c1
  have e0 := cell_a2 c0
  have e1 := cell_a2 c1
  go_enter Yba.func7, Yba.ntmps7
  go_wp2_with fail
  go_region
  go_wp2_with (go_at_call 13; refine (ctl_any _ _).mono ?_; rintro e w' ⟨rfl, rfl⟩)
  all_goals
    go_region_with (go_at_call 12; refine (perr_any _ _).mono ?_; rintro e w' ⟨rfl, rfl⟩)
    all_goals
      go_wp2
      refine bodyPost_ret (v := .tuple #[.agg #[.bool false, .int .u8 o, .bool false, .int .u8 0, .int .u8 0, .int .u8 0, .int .u8 0, .int .i64 len], .iface 48 (.agg #[.int .u16 1002, .string _])]) (by simp [results, Yba.results7, go_sem]; rfl) rfl ⟨_, rfl, Fault.bad _, ?_⟩
      exact ((((Below.refl w.heap.size w).alloc (Nat.le_refl _) _).alloc (by simp) _).drew).drew

set_option maxHeartbeats 2000000 in
set_option maxRecDepth 100000 in
theorem parse_small_fff (g c : Nat) (z0 y o len : Int) (w : World) (hc : 2 ≤ c) (hc2 : c ≤ 9223372036854775807)
    (f1 : bits .and .u8 z0 128 = 0) (f2 : bits .and .u8 z0 15 = o) (f3 : bits .and .u8 y 128 = 0) (f4 : bits .and .u8 y 127 = len) (hl0 : 0 ≤ len) (hl : len ≤ 125) (f5 : bits .and .u8 o 8 = 0)
    (c0 : w.cell? ⟨g, 0, none⟩ = some (.int .u8 z0)) (c1 : w.cell? ⟨g, 1, none⟩ = some (.int .u8 y)) :
    Calls Yba.prog 7 #[.slice (some ⟨g, 0, none⟩) 2 c] w fun e w' => ∃ v, e = .returned (.tuple #[.agg #[.bool false, .int .u8 o, .bool false, .int .u8 0, .int .u8 0, .int .u8 0, .int .u8 0, .int .i64 len], v]) ∧ Fault false v ∧ Below w.heap.size w w' := by
  have d0 := cell_a1 c0
  have d1 := cell_a1 c1
  have e0 := cell_a2 c0
  have e1 := cell_a2 c1
  go_enter Yba.func7, Yba.ntmps7
  go_wp2_with fail
  go_region
  go_wp2_with (go_at_call 13; refine (ctl_any _ _).mono ?_; rintro e w' ⟨rfl, rfl⟩)
  all_goals
    refine bodyPost_ret (v := .tuple #[.agg #[.bool false, .int .u8 o, .bool false, .int .u8 0, .int .u8 0, .int .u8 0, .int .u8 0, .int .i64 len], .nilIface]) (by simp [results, Yba.results7, go_sem]) rfl ⟨_, rfl, Fault.ok, ?_⟩
    exact (((Below.refl w.heap.size w).alloc (Nat.le_refl _) _).alloc (by simp) _).drew

end Go.Proofs.Ybulkbuhs
