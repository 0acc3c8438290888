/- parseFrameHeader at a header of the middle form. -/
import Derived.Test.YbulkbuhsParse1
namespace Go.Proofs.Ybulkbuhs
open Go.RowKit
set_option linter.unusedVariables false
set_option linter.unusedSimpArgs false

set_option maxHeartbeats 4000000 in
set_option maxRecDepth 100000 in
theorem parse_mid_ttt (g c : Nat) (z0 y o : Int) (len : Nat) (m0 m1 m2 m3 : Int) (w : World) (hc : 8 ≤ c) (hc2 : c ≤ 9223372036854775807)
    (f1 : bits .and .u8 z0 128 = 128) (f2 : bits .and .u8 z0 15 = o) (f3 : bits .and .u8 y 128 = 128) (f4 : bits .and .u8 y 127 = 126) (hl0 : 125 < len) (hl : len ≤ 65535) (f5 : bits .and .u8 o 8 = 8)
    (c0 : w.cell? ⟨g, 0, none⟩ = some (.int .u8 z0)) (c1 : w.cell? ⟨g, 1, none⟩ = some (.int .u8 y))
    (b0 : w.cell? ⟨g, 2, none⟩ = some (.int .u8 ((len : Int) / 256 % 256))) (b1 : w.cell? ⟨g, 3, none⟩ = some (.int .u8 ((len : Int) % 256)))
    (c2 : w.cell? ⟨g, 4, none⟩ = some (.int .u8 m0)) (c3 : w.cell? ⟨g, 5, none⟩ = some (.int .u8 m1)) (c4 : w.cell? ⟨g, 6, none⟩ = some (.int .u8 m2)) (c5 : w.cell? ⟨g, 7, none⟩ = some (.int .u8 m3)) :
    Calls Yba.prog 7 #[.slice (some ⟨g, 0, none⟩) 8 c] w fun e w' => ∃ v, e = .returned (.tuple #[.agg #[.bool true, .int .u8 o, .bool true, .int .u8 m0, .int .u8 m1, .int .u8 m2, .int .u8 m3, .int .i64 len], v]) ∧ Fault true v ∧ Below w.heap.size w w' := by
  have hc3 : ¬ c = 2 := by omega
  have hc4 : ¬ c - 2 = 2 := by omega
  have d0 := cell_a1 c0
  have d1 := cell_a1 c1
  have e0 := cell_a2 c0
  have e1 := cell_a2 c1
  have HU : Hid (∀ (x y : Obj) (n c : Nat), 2 ≤ n → Calls Yba.prog 10 #[.agg #[], .slice (some ⟨g, 2, none⟩) n c] ((w.alloc x).alloc y).drew fun e w' => e = .returned (.int .u16 len) ∧ w' = (((w.alloc x).alloc y).drew.alloc (.cells #[] 38)).drew) :=
    fun x y n c h => u16_at len (by omega) g 2 n c _ h (cell_a2 b0 x y) (cell_a2 b1 x y)
  clear b0 b1
  have H2 : Hid (∀ x y z : Obj, (((w.alloc x).alloc y).alloc z).drew.drew.cell? ⟨g, 4, none⟩ = some (.int .u8 m0)) := fun x y z => cell_a1 (cell_a2 c2 x y) z
  have H3 : Hid (∀ x y z : Obj, (((w.alloc x).alloc y).alloc z).drew.drew.cell? ⟨g, 5, none⟩ = some (.int .u8 m1)) := fun x y z => cell_a1 (cell_a2 c3 x y) z
  have H4 : Hid (∀ x y z : Obj, (((w.alloc x).alloc y).alloc z).drew.drew.cell? ⟨g, 6, none⟩ = some (.int .u8 m2)) := fun x y z => cell_a1 (cell_a2 c4 x y) z
  have H5 : Hid (∀ x y z : Obj, (((w.alloc x).alloc y).alloc z).drew.drew.cell? ⟨g, 7, none⟩ = some (.int .u8 m3)) := fun x y z => cell_a1 (cell_a2 c5 x y) z
  clear c2 c3 c4 c5
  go_enter Yba.func7, Yba.ntmps7
  go_wp2_with fail
  go_region
  go_wp2_with fail
  refine (HU.out _ _ _ _ (by omega)).mono ?_
  clear HU
  rintro e w1 ⟨rfl, rfl⟩
  go_wp2_with fail
  rw [run_copy4 _ (w.heap.size + 1) 3 g 4 (c - 2 - 2) m0 m1 m2 m3 _ _ _ _ (H2.out _ _ _) (H3.out _ _ _) (H4.out _ _ _) (H5.out _ _ _) (cell_h _ _ _ _ 3 _ rfl) (cell_h _ _ _ _ 4 _ rfl) (cell_h _ _ _ _ 5 _ rfl) (cell_h _ _ _ _ 6 _ rfl) (froz_h _ _ _ _ _ _ _) (froz_h _ _ _ _ _ _ _) (froz_h _ _ _ _ _ _ _) (froz_h _ _ _ _ _ _ _)]
  go_wp2_with (go_at_call 13; refine (ctl_any _ _).mono ?_; rintro e w' ⟨rfl, rfl⟩)
  all_goals
    go_region_with (go_at_call 12; refine (perr_any _ _).mono ?_; rintro e w' ⟨rfl, rfl⟩)
    all_goals
      go_wp2
      refine bodyPost_ret (v := .tuple #[.agg #[.bool true, .int .u8 o, .bool true, .int .u8 m0, .int .u8 m1, .int .u8 m2, .int .u8 m3, .int .i64 len], .iface 48 (.agg #[.int .u16 1002, .string _])]) (by simp [results, Yba.results7, go_sem]; rfl) rfl ⟨_, rfl, Fault.bad _, ?_⟩
      first | exact ((((((Below.refl w.heap.size w).alloc (Nat.le_refl _) _).alloc (by simp) _).alloc (by simp; omega) _).drew).drew).drew | exact belowN (((((Below.refl w.heap.size w).alloc (Nat.le_refl _) _).alloc (by simp) _).alloc (by simp; omega) _)) _ | exact (belowN (((((Below.refl w.heap.size w).alloc (Nat.le_refl _) _).alloc (by simp) _).alloc (by simp; omega) _)) _).drew

set_option maxHeartbeats 4000000 in
set_option maxRecDepth 100000 in
theorem parse_mid_ttf (g c : Nat) (z0 y o : Int) (len : Nat) (m0 m1 m2 m3 : Int) (w : World) (hc : 8 ≤ c) (hc2 : c ≤ 9223372036854775807)
    (f1 : bits .and .u8 z0 128 = 128) (f2 : bits .and .u8 z0 15 = o) (f3 : bits .and .u8 y 128 = 128) (f4 : bits .and .u8 y 127 = 126) (hl0 : 125 < len) (hl : len ≤ 65535) (f5 : bits .and .u8 o 8 = 0)
    (c0 : w.cell? ⟨g, 0, none⟩ = some (.int .u8 z0)) (c1 : w.cell? ⟨g, 1, none⟩ = some (.int .u8 y))
    (b0 : w.cell? ⟨g, 2, none⟩ = some (.int .u8 ((len : Int) / 256 % 256))) (b1 : w.cell? ⟨g, 3, none⟩ = some (.int .u8 ((len : Int) % 256)))
    (c2 : w.cell? ⟨g, 4, none⟩ = some (.int .u8 m0)) (c3 : w.cell? ⟨g, 5, none⟩ = some (.int .u8 m1)) (c4 : w.cell? ⟨g, 6, none⟩ = some (.int .u8 m2)) (c5 : w.cell? ⟨g, 7, none⟩ = some (.int .u8 m3)) :
    Calls Yba.prog 7 #[.slice (some ⟨g, 0, none⟩) 8 c] w fun e w' => ∃ v, e = .returned (.tuple #[.agg #[.bool true, .int .u8 o, .bool true, .int .u8 m0, .int .u8 m1, .int .u8 m2, .int .u8 m3, .int .i64 len], v]) ∧ Fault false v ∧ Below w.heap.size w w' := by
  have hc3 : ¬ c = 2 := by omega
  have hc4 : ¬ c - 2 = 2 := by omega
  have d0 := cell_a1 c0
  have d1 := cell_a1 c1
  have e0 := cell_a2 c0
  have e1 := cell_a2 c1
  have HU : Hid (∀ (x y : Obj) (n c : Nat), 2 ≤ n → Calls Yba.prog 10 #[.agg #[], .slice (some ⟨g, 2, none⟩) n c] ((w.alloc x).alloc y).drew fun e w' => e = .returned (.int .u16 len) ∧ w' = (((w.alloc x).alloc y).drew.alloc (.cells #[] 38)).drew) :=
    fun x y n c h => u16_at len (by omega) g 2 n c _ h (cell_a2 b0 x y) (cell_a2 b1 x y)
  clear b0 b1
  have H2 : Hid (∀ x y z : Obj, (((w.alloc x).alloc y).alloc z).drew.drew.cell? ⟨g, 4, none⟩ = some (.int .u8 m0)) := fun x y z => cell_a1 (cell_a2 c2 x y) z
  have H3 : Hid (∀ x y z : Obj, (((w.alloc x).alloc y).alloc z).drew.drew.cell? ⟨g, 5, none⟩ = some (.int .u8 m1)) := fun x y z => cell_a1 (cell_a2 c3 x y) z
  have H4 : Hid (∀ x y z : Obj, (((w.alloc x).alloc y).alloc z).drew.drew.cell? ⟨g, 6, none⟩ = some (.int .u8 m2)) := fun x y z => cell_a1 (cell_a2 c4 x y) z
  have H5 : Hid (∀ x y z : Obj, (((w.alloc x).alloc y).alloc z).drew.drew.cell? ⟨g, 7, none⟩ = some (.int .u8 m3)) := fun x y z => cell_a1 (cell_a2 c5 x y) z
  clear c2 c3 c4 c5
  go_enter Yba.func7, Yba.ntmps7
  go_wp2_with fail
  go_region
  go_wp2_with fail
  refine (HU.out _ _ _ _ (by omega)).mono ?_
  clear HU
  rintro e w1 ⟨rfl, rfl⟩
  go_wp2_with fail
  rw [run_copy4 _ (w.heap.size + 1) 3 g 4 (c - 2 - 2) m0 m1 m2 m3 _ _ _ _ (H2.out _ _ _) (H3.out _ _ _) (H4.out _ _ _) (H5.out _ _ _) (cell_h _ _ _ _ 3 _ rfl) (cell_h _ _ _ _ 4 _ rfl) (cell_h _ _ _ _ 5 _ rfl) (cell_h _ _ _ _ 6 _ rfl) (froz_h _ _ _ _ _ _ _) (froz_h _ _ _ _ _ _ _) (froz_h _ _ _ _ _ _ _) (froz_h _ _ _ _ _ _ _)]
  go_wp2_with (go_at_call 13; refine (ctl_any _ _).mono ?_; rintro e w' ⟨rfl, rfl⟩)
  all_goals
    refine bodyPost_ret (v := .tuple #[.agg #[.bool true, .int .u8 o, .bool true, .int .u8 m0, .int .u8 m1, .int .u8 m2, .int .u8 m3, .int .i64 len], .nilIface]) (by simp [results, Yba.results7, go_sem]) rfl ⟨_, rfl, Fault.ok, ?_⟩
    first | exact (((((Below.refl w.heap.size w).alloc (Nat.le_refl _) _).alloc (by simp) _).alloc (by simp; omega) _).drew).drew | exact belowN (((((Below.refl w.heap.size w).alloc (Nat.le_refl _) _).alloc (by simp) _).alloc (by simp; omega) _)) _

set_option maxHeartbeats 4000000 in
set_option maxRecDepth 100000 in
theorem parse_mid_tft (g c : Nat) (z0 y o : Int) (len : Nat) (w : World) (hc : 4 ≤ c) (hc2 : c ≤ 9223372036854775807)
    (f1 : bits .and .u8 z0 128 = 128) (f2 : bits .and .u8 z0 15 = o) (f3 : bits .and .u8 y 128 = 0) (f4 : bits .and .u8 y 127 = 126) (hl0 : 125 < len) (hl : len ≤ 65535) (f5 : bits .and .u8 o 8 = 8)
    (c0 : w.cell? ⟨g, 0, none⟩ = some (.int .u8 z0)) (c1 : w.cell? ⟨g, 1, none⟩ = some (.int .u8 y))
    (b0 : w.cell? ⟨g, 2, none⟩ = some (.int .u8 ((len : Int) / 256 % 256))) (b1 : w.cell? ⟨g, 3, none⟩ = some (.int .u8 ((len : Int) % 256))) :
    Calls Yba.prog 7 #[.slice (some ⟨g, 0, none⟩) 4 c] w fun e w' => ∃ v, e = .returned (.tuple #[.agg #[.bool true, .int .u8 o, .bool false, .int .u8 0, .int .u8 0, .int .u8 0, .int .u8 0, .int .i64 len], v]) ∧ Fault true v ∧ Below w.heap.size w w' := by
  have hc3 : ¬ c = 2 := by omega
  have d0 := cell_a1 c0
  have d1 := cell_a1 c1
  have e0 := cell_a2 c0
  have e1 := cell_a2 c1
  have HU : Hid (∀ (x y : Obj) (n c : Nat), 2 ≤ n → Calls Yba.prog 10 #[.agg #[], .slice (some ⟨g, 2, none⟩) n c] ((w.alloc x).alloc y).drew fun e w' => e = .returned (.int .u16 len) ∧ w' = (((w.alloc x).alloc y).drew.alloc (.cells #[] 38)).drew) :=
    fun x y n c h => u16_at len (by omega) g 2 n c _ h (cell_a2 b0 x y) (cell_a2 b1 x y)
  clear b0 b1
  go_enter Yba.func7, Yba.ntmps7
  go_wp2_with fail
  go_region
  go_wp2_with fail
  refine (HU.out _ _ _ _ (by omega)).mono ?_
  clear HU
  rintro e w1 ⟨rfl, rfl⟩
  go_wp2_with (go_at_call 13; refine (ctl_any _ _).mono ?_; rintro e w' ⟨rfl, rfl⟩)
  all_goals
    go_region_with (go_at_call 12; refine (perr_any _ _).mono ?_; rintro e w' ⟨rfl, rfl⟩)
    all_goals
      go_wp2
      refine bodyPost_ret (v := .tuple #[.agg #[.bool true, .int .u8 o, .bool false, .int .u8 0, .int .u8 0, .int .u8 0, .int .u8 0, .int .i64 len], .iface 48 (.agg #[.int .u16 1002, .string _])]) (by simp [results, Yba.results7, go_sem]; rfl) rfl ⟨_, rfl, Fault.bad _, ?_⟩
      first | exact ((((((Below.refl w.heap.size w).alloc (Nat.le_refl _) _).alloc (by simp) _).alloc (by simp; omega) _).drew).drew).drew | exact belowN (((((Below.refl w.heap.size w).alloc (Nat.le_refl _) _).alloc (by simp) _).alloc (by simp; omega) _)) _ | exact (belowN (((((Below.refl w.heap.size w).alloc (Nat.le_refl _) _).alloc (by simp) _).alloc (by simp; omega) _)) _).drew

set_option maxHeartbeats 4000000 in
set_option maxRecDepth 100000 in
theorem parse_mid_tff (g c : Nat) (z0 y o : Int) (len : Nat) (w : World) (hc : 4 ≤ c) (hc2 : c ≤ 9223372036854775807)
    (f1 : bits .and .u8 z0 128 = 128) (f2 : bits .and .u8 z0 15 = o) (f3 : bits .and .u8 y 128 = 0) (f4 : bits .and .u8 y 127 = 126) (hl0 : 125 < len) (hl : len ≤ 65535) (f5 : bits .and .u8 o 8 = 0)
    (c0 : w.cell? ⟨g, 0, none⟩ = some (.int .u8 z0)) (c1 : w.cell? ⟨g, 1, none⟩ = some (.int .u8 y))
    (b0 : w.cell? ⟨g, 2, none⟩ = some (.int .u8 ((len : Int) / 256 % 256))) (b1 : w.cell? ⟨g, 3, none⟩ = some (.int .u8 ((len : Int) % 256))) :
    Calls Yba.prog 7 #[.slice (some ⟨g, 0, none⟩) 4 c] w fun e w' => ∃ v, e = .returned (.tuple #[.agg #[.bool true, .int .u8 o, .bool false, .int .u8 0, .int .u8 0, .int .u8 0, .int .u8 0, .int .i64 len], v]) ∧ Fault false v ∧ Below w.heap.size w w' := by
  have hc3 : ¬ c = 2 := by omega
  have d0 := cell_a1 c0
  have d1 := cell_a1 c1
  have e0 := cell_a2 c0
  have e1 := cell_a2 c1
  have HU : Hid (∀ (x y : Obj) (n c : Nat), 2 ≤ n → Calls Yba.prog 10 #[.agg #[], .slice (some ⟨g, 2, none⟩) n c] ((w.alloc x).alloc y).drew fun e w' => e = .returned (.int .u16 len) ∧ w' = (((w.alloc x).alloc y).drew.alloc (.cells #[] 38)).drew) :=
    fun x y n c h => u16_at len (by omega) g 2 n c _ h (cell_a2 b0 x y) (cell_a2 b1 x y)
  clear b0 b1
  go_enter Yba.func7, Yba.ntmps7
  go_wp2_with fail
  go_region
  go_wp2_with fail
  refine (HU.out _ _ _ _ (by omega)).mono ?_
  clear HU
  rintro e w1 ⟨rfl, rfl⟩
  go_wp2_with (go_at_call 13; refine (ctl_any _ _).mono ?_; rintro e w' ⟨rfl, rfl⟩)
  all_goals
    refine bodyPost_ret (v := .tuple #[.agg #[.bool true, .int .u8 o, .bool false, .int .u8 0, .int .u8 0, .int .u8 0, .int .u8 0, .int .i64 len], .nilIface]) (by simp [results, Yba.results7, go_sem]) rfl ⟨_, rfl, Fault.ok, ?_⟩
    first | exact (((((Below.refl w.heap.size w).alloc (Nat.le_refl _) _).alloc (by simp) _).alloc (by simp; omega) _).drew).drew | exact belowN (((((Below.refl w.heap.size w).alloc (Nat.le_refl _) _).alloc (by simp) _).alloc (by simp; omega) _)) _

set_option maxHeartbeats 4000000 in
set_option maxRecDepth 100000 in
theorem parse_mid_ftt (g c : Nat) (z0 y o : Int) (len : Nat) (m0 m1 m2 m3 : Int) (w : World) (hc : 8 ≤ c) (hc2 : c ≤ 9223372036854775807)
    (f1 : bits .and .u8 z0 128 = 0) (f2 : bits .and .u8 z0 15 = o) (f3 : bits .and .u8 y 128 = 128) (f4 : bits .and .u8 y 127 = 126) (hl0 : 125 < len) (hl : len ≤ 65535) (f5 : bits .and .u8 o 8 = 8)
    (c0 : w.cell? ⟨g, 0, none⟩ = some (.int .u8 z0)) (c1 : w.cell? ⟨g, 1, none⟩ = some (.int .u8 y))
    (b0 : w.cell? ⟨g, 2, none⟩ = some (.int .u8 ((len : Int) / 256 % 256))) (b1 : w.cell? ⟨g, 3, none⟩ = some (.int .u8 ((len : Int) % 256)))
    (c2 : w.cell? ⟨g, 4, none⟩ = some (.int .u8 m0)) (c3 : w.cell? ⟨g, 5, none⟩ = some (.int .u8 m1)) (c4 : w.cell? ⟨g, 6, none⟩ = some (.int .u8 m2)) (c5 : w.cell? ⟨g, 7, none⟩ = some (.int .u8 m3)) :
    Calls Yba.prog 7 #[.slice (some ⟨g, 0, none⟩) 8 c] w fun e w' => ∃ v, e = .returned (.tuple #[.agg #[.bool false, .int .u8 o, .bool true, .int .u8 m0, .int .u8 m1, .int .u8 m2, .int .u8 m3, .int .i64 len], v]) ∧ Fault true v ∧ Below w.heap.size w w' := by
  have hc3 : ¬ c = 2 := by omega
  have hc4 : ¬ c - 2 = 2 := by omega
  have d0 := cell_a1 c0
  have d1 := cell_a1 c1
  have e0 := cell_a2 c0
  have e1 := cell_a2 c1
  have HU : Hid (∀ (x y : Obj) (n c : Nat), 2 ≤ n → Calls Yba.prog 10 #[.agg #[], .slice (some ⟨g, 2, none⟩) n c] ((w.alloc x).alloc y).drew fun e w' => e = .returned (.int .u16 len) ∧ w' = (((w.alloc x).alloc y).drew.alloc (.cells #[] 38)).drew) :=
    fun x y n c h => u16_at len (by omega) g 2 n c _ h (cell_a2 b0 x y) (cell_a2 b1 x y)
  clear b0 b1
  have H2 : Hid (∀ x y z : Obj, (((w.alloc x).alloc y).alloc z).drew.drew.cell? ⟨g, 4, none⟩ = some (.int .u8 m0)) := fun x y z => cell_a1 (cell_a2 c2 x y) z
  have H3 : Hid (∀ x y z : Obj, (((w.alloc x).alloc y).alloc z).drew.drew.cell? ⟨g, 5, none⟩ = some (.int .u8 m1)) := fun x y z => cell_a1 (cell_a2 c3 x y) z
  have H4 : Hid (∀ x y z : Obj, (((w.alloc x).alloc y).alloc z).drew.drew.cell? ⟨g, 6, none⟩ = some (.int .u8 m2)) := fun x y z => cell_a1 (cell_a2 c4 x y) z
  have H5 : Hid (∀ x y z : Obj, (((w.alloc x).alloc y).alloc z).drew.drew.cell? ⟨g, 7, none⟩ = some (.int .u8 m3)) := fun x y z => cell_a1 (cell_a2 c5 x y) z
  clear c2 c3 c4 c5
  go_enter Yba.func7, Yba.ntmps7
  go_wp2_with fail
  go_region
  go_wp2_with fail
  refine (HU.out _ _ _ _ (by omega)).mono ?_
  clear HU
  rintro e w1 ⟨rfl, rfl⟩
  go_wp2_with fail
  rw [run_copy4 _ (w.heap.size + 1) 3 g 4 (c - 2 - 2) m0 m1 m2 m3 _ _ _ _ (H2.out _ _ _) (H3.out _ _ _) (H4.out _ _ _) (H5.out _ _ _) (cell_h _ _ _ _ 3 _ rfl) (cell_h _ _ _ _ 4 _ rfl) (cell_h _ _ _ _ 5 _ rfl) (cell_h _ _ _ _ 6 _ rfl) (froz_h _ _ _ _ _ _ _) (froz_h _ _ _ _ _ _ _) (froz_h _ _ _ _ _ _ _) (froz_h _ _ _ _ _ _ _)]
  go_wp2_with (go_at_call 13; refine (ctl_any _ _).mono ?_; rintro e w' ⟨rfl, rfl⟩)
  all_goals
    go_region_with (go_at_call 12; refine (perr_any _ _).mono ?_; rintro e w' ⟨rfl, rfl⟩)
    all_goals
      go_wp2
      refine bodyPost_ret (v := .tuple #[.agg #[.bool false, .int .u8 o, .bool true, .int .u8 m0, .int .u8 m1, .int .u8 m2, .int .u8 m3, .int .i64 len], .iface 48 (.agg #[.int .u16 1002, .string _])]) (by simp [results, Yba.results7, go_sem]; rfl) rfl ⟨_, rfl, Fault.bad _, ?_⟩
      first | exact ((((((Below.refl w.heap.size w).alloc (Nat.le_refl _) _).alloc (by simp) _).alloc (by simp; omega) _).drew).drew).drew | exact belowN (((((Below.refl w.heap.size w).alloc (Nat.le_refl _) _).alloc (by simp) _).alloc (by simp; omega) _)) _ | exact (belowN (((((Below.refl w.heap.size w).alloc (Nat.le_refl _) _).alloc (by simp) _).alloc (by simp; omega) _)) _).drew

set_option maxHeartbeats 4000000 in
set_option maxRecDepth 100000 in
theorem parse_mid_ftf (g c : Nat) (z0 y o : Int) (len : Nat) (m0 m1 m2 m3 : Int) (w : World) (hc : 8 ≤ c) (hc2 : c ≤ 9223372036854775807)
    (f1 : bits .and .u8 z0 128 = 0) (f2 : bits .and .u8 z0 15 = o) (f3 : bits .and .u8 y 128 = 128) (f4 : bits .and .u8 y 127 = 126) (hl0 : 125 < len) (hl : len ≤ 65535) (f5 : bits .and .u8 o 8 = 0)
    (c0 : w.cell? ⟨g, 0, none⟩ = some (.int .u8 z0)) (c1 : w.cell? ⟨g, 1, none⟩ = some (.int .u8 y))
    (b0 : w.cell? ⟨g, 2, none⟩ = some (.int .u8 ((len : Int) / 256 % 256))) (b1 : w.cell? ⟨g, 3, none⟩ = some (.int .u8 ((len : Int) % 256)))
    (c2 : w.cell? ⟨g, 4, none⟩ = some (.int .u8 m0)) (c3 : w.cell? ⟨g, 5, none⟩ = some (.int .u8 m1)) (c4 : w.cell? ⟨g, 6, none⟩ = some (.int .u8 m2)) (c5 : w.cell? ⟨g, 7, none⟩ = some (.int .u8 m3)) :
    Calls Yba.prog 7 #[.slice (some ⟨g, 0, none⟩) 8 c] w fun e w' => ∃ v, e = .returned (.tuple #[.agg #[.bool false, .int .u8 o, .bool true, .int .u8 m0, .int .u8 m1, .int .u8 m2, .int .u8 m3, .int .i64 len], v]) ∧ Fault false v ∧ Below w.heap.size w w' := by
  have hc3 : ¬ c = 2 := by omega
  have hc4 : ¬ c - 2 = 2 := by omega
  have d0 := cell_a1 c0
  have d1 := cell_a1 c1
  have e0 := cell_a2 c0
  have e1 := cell_a2 c1
  have HU : Hid (∀ (x y : Obj) (n c : Nat), 2 ≤ n → Calls Yba.prog 10 #[.agg #[], .slice (some ⟨g, 2, none⟩) n c] ((w.alloc x).alloc y).drew fun e w' => e = .returned (.int .u16 len) ∧ w' = (((w.alloc x).alloc y).drew.alloc (.cells #[] 38)).drew) :=
    fun x y n c h => u16_at len (by omega) g 2 n c _ h (cell_a2 b0 x y) (cell_a2 b1 x y)
  clear b0 b1
  have H2 : Hid (∀ x y z : Obj, (((w.alloc x).alloc y).alloc z).drew.drew.cell? ⟨g, 4, none⟩ = some (.int .u8 m0)) := fun x y z => cell_a1 (cell_a2 c2 x y) z
  have H3 : Hid (∀ x y z : Obj, (((w.alloc x).alloc y).alloc z).drew.drew.cell? ⟨g, 5, none⟩ = some (.int .u8 m1)) := fun x y z => cell_a1 (cell_a2 c3 x y) z
  have H4 : Hid (∀ x y z : Obj, (((w.alloc x).alloc y).alloc z).drew.drew.cell? ⟨g, 6, none⟩ = some (.int .u8 m2)) := fun x y z => cell_a1 (cell_a2 c4 x y) z
  have H5 : Hid (∀ x y z : Obj, (((w.alloc x).alloc y).alloc z).drew.drew.cell? ⟨g, 7, none⟩ = some (.int .u8 m3)) := fun x y z => cell_a1 (cell_a2 c5 x y) z
  clear c2 c3 c4 c5
  go_enter Yba.func7, Yba.ntmps7
  go_wp2_with fail
  go_region
  go_wp2_with fail
  refine (HU.out _ _ _ _ (by omega)).mono ?_
  clear HU
  rintro e w1 ⟨rfl, rfl⟩
  go_wp2_with fail
  rw [run_copy4 _ (w.heap.size + 1) 3 g 4 (c - 2 - 2) m0 m1 m2 m3 _ _ _ _ (H2.out _ _ _) (H3.out _ _ _) (H4.out _ _ _) (H5.out _ _ _) (cell_h _ _ _ _ 3 _ rfl) (cell_h _ _ _ _ 4 _ rfl) (cell_h _ _ _ _ 5 _ rfl) (cell_h _ _ _ _ 6 _ rfl) (froz_h _ _ _ _ _ _ _) (froz_h _ _ _ _ _ _ _) (froz_h _ _ _ _ _ _ _) (froz_h _ _ _ _ _ _ _)]
  go_wp2_with (go_at_call 13; refine (ctl_any _ _).mono ?_; rintro e w' ⟨rfl, rfl⟩)
  all_goals
    refine bodyPost_ret (v := .tuple #[.agg #[.bool false, .int .u8 o, .bool true, .int .u8 m0, .int .u8 m1, .int .u8 m2, .int .u8 m3, .int .i64 len], .nilIface]) (by simp [results, Yba.results7, go_sem]) rfl ⟨_, rfl, Fault.ok, ?_⟩
    first | exact (((((Below.refl w.heap.size w).alloc (Nat.le_refl _) _).alloc (by simp) _).alloc (by simp; omega) _).drew).drew | exact belowN (((((Below.refl w.heap.size w).alloc (Nat.le_refl _) _).alloc (by simp) _).alloc (by simp; omega) _)) _

set_option maxHeartbeats 4000000 in
set_option maxRecDepth 100000 in
theorem parse_mid_fft (g c : Nat) (z0 y o : Int) (len : Nat) (w : World) (hc : 4 ≤ c) (hc2 : c ≤ 9223372036854775807)
    (f1 : bits .and .u8 z0 128 = 0) (f2 : bits .and .u8 z0 15 = o) (f3 : bits .and .u8 y 128 = 0) (f4 : bits .and .u8 y 127 = 126) (hl0 : 125 < len) (hl : len ≤ 65535) (f5 : bits .and .u8 o 8 = 8)
    (c0 : w.cell? ⟨g, 0, none⟩ = some (.int .u8 z0)) (c1 : w.cell? ⟨g, 1, none⟩ = some (.int .u8 y))
    (b0 : w.cell? ⟨g, 2, none⟩ = some (.int .u8 ((len : Int) / 256 % 256))) (b1 : w.cell? ⟨g, 3, none⟩ = some (.int .u8 ((len : Int) % 256))) :
    Calls Yba.prog 7 #[.slice (some ⟨g, 0, none⟩) 4 c] w fun e w' => ∃ v, e = .returned (.tuple #[.agg #[.bool false, .int .u8 o, .bool false, .int .u8 0, .int .u8 0, .int .u8 0, .int .u8 0, .int .i64 len], v]) ∧ Fault true v ∧ Below w.heap.size w w' := by
  have hc3 : ¬ c = 2 := by omega
  have d0 := cell_a1 c0
  have d1 := cell_a1 c1
  have e0 := cell_a2 c0
  have e1 := cell_a2 c1
  have HU : Hid (∀ (x y : Obj) (n c : Nat), 2 ≤ n → Calls Yba.prog 10 #[.agg #[], .slice (some ⟨g, 2, none⟩) n c] ((w.alloc x).alloc y).drew fun e w' => e = .returned (.int .u16 len) ∧ w' = (((w.alloc x).alloc y).drew.alloc (.cells #[] 38)).drew) :=
    fun x y n c h => u16_at len (by omega) g 2 n c _ h (cell_a2 b0 x y) (cell_a2 b1 x y)
  clear b0 b1
  go_enter Yba.func7, Yba.ntmps7
  go_wp2_with fail
  go_region
  go_wp2_with fail
  refine (HU.out _ _ _ _ (by omega)).mono ?_
  clear HU
  rintro e w1 ⟨rfl, rfl⟩
  go_wp2_with (go_at_call 13; refine (ctl_any _ _).mono ?_; rintro e w' ⟨rfl, rfl⟩)
  all_goals
    go_region_with (go_at_call 12; refine (perr_any _ _).mono ?_; rintro e w' ⟨rfl, rfl⟩)
    all_goals
      go_wp2
      refine bodyPost_ret (v := .tuple #[.agg #[.bool false, .int .u8 o, .bool false, .int .u8 0, .int .u8 0, .int .u8 0, .int .u8 0, .int .i64 len], .iface 48 (.agg #[.int .u16 1002, .string _])]) (by simp [results, Yba.results7, go_sem]; rfl) rfl ⟨_, rfl, Fault.bad _, ?_⟩
      first | exact ((((((Below.refl w.heap.size w).alloc (Nat.le_refl _) _).alloc (by simp) _).alloc (by simp; omega) _).drew).drew).drew | exact belowN (((((Below.refl w.heap.size w).alloc (Nat.le_refl _) _).alloc (by simp) _).alloc (by simp; omega) _)) _ | exact (belowN (((((Below.refl w.heap.size w).alloc (Nat.le_refl _) _).alloc (by simp) _).alloc (by simp; omega) _)) _).drew

set_option maxHeartbeats 4000000 in
set_option maxRecDepth 100000 in
theorem parse_mid_fff (g c : Nat) (z0 y o : Int) (len : Nat) (w : World) (hc : 4 ≤ c) (hc2 : c ≤ 9223372036854775807)
    (f1 : bits .and .u8 z0 128 = 0) (f2 : bits .and .u8 z0 15 = o) (f3 : bits .and .u8 y 128 = 0) (f4 : bits .and .u8 y 127 = 126) (hl0 : 125 < len) (hl : len ≤ 65535) (f5 : bits .and .u8 o 8 = 0)
    (c0 : w.cell? ⟨g, 0, none⟩ = some (.int .u8 z0)) (c1 : w.cell? ⟨g, 1, none⟩ = some (.int .u8 y))
    (b0 : w.cell? ⟨g, 2, none⟩ = some (.int .u8 ((len : Int) / 256 % 256))) (b1 : w.cell? ⟨g, 3, none⟩ = some (.int .u8 ((len : Int) % 256))) :
    Calls Yba.prog 7 #[.slice (some ⟨g, 0, none⟩) 4 c] w fun e w' => ∃ v, e = .returned (.tuple #[.agg #[.bool false, .int .u8 o, .bool false, .int .u8 0, .int .u8 0, .int .u8 0, .int .u8 0, .int .i64 len], v]) ∧ Fault false v ∧ Below w.heap.size w w' := by
  have hc3 : ¬ c = 2 := by omega
  have d0 := cell_a1 c0
  have d1 := cell_a1 c1
  have e0 := cell_a2 c0
  have e1 := cell_a2 c1
  have HU : Hid (∀ (x y : Obj) (n c : Nat), 2 ≤ n → Calls Yba.prog 10 #[.agg #[], .slice (some ⟨g, 2, none⟩) n c] ((w.alloc x).alloc y).drew fun e w' => e = .returned (.int .u16 len) ∧ w' = (((w.alloc x).alloc y).drew.alloc (.cells #[] 38)).drew) :=
    fun x y n c h => u16_at len (by omega) g 2 n c _ h (cell_a2 b0 x y) (cell_a2 b1 x y)
  clear b0 b1
  go_enter Yba.func7, Yba.ntmps7
  go_wp2_with fail
  go_region
  go_wp2_with fail
  refine (HU.out _ _ _ _ (by omega)).mono ?_
  clear HU
  rintro e w1 ⟨rfl, rfl⟩
  go_wp2_with (go_at_call 13; refine (ctl_any _ _).mono ?_; rintro e w' ⟨rfl, rfl⟩)
  all_goals
    refine bodyPost_ret (v := .tuple #[.agg #[.bool false, .int .u8 o, .bool false, .int .u8 0, .int .u8 0, .int .u8 0, .int .u8 0, .int .i64 len], .nilIface]) (by simp [results, Yba.results7, go_sem]) rfl ⟨_, rfl, Fault.ok, ?_⟩
    first | exact (((((Below.refl w.heap.size w).alloc (Nat.le_refl _) _).alloc (by simp) _).alloc (by simp; omega) _).drew).drew | exact belowN (((((Below.refl w.heap.size w).alloc (Nat.le_refl _) _).alloc (by simp) _).alloc (by simp; omega) _)) _

end Go.Proofs.Ybulkbuhs
