/- The walk of appendFrameHeader onto a slice whose capacity is used up (nil too). -/
import Derived.Test.YbulkbuhsLaws
namespace Go.Proofs.Ybulkbuhs
open Go.RowKit

theorem cell_new1 (w : World) (z : Value) (t : TypeId) (k : Nat) (hk : k = w.heap.size) : ∀ j u, [z][j]? = some u → (w.alloc (.cells #[z] t)).cell? ((⟨k, 0, none⟩ : Addr).add j) = some u := by
  subst hk; exact cell_one_new _ _ _

/-- A cell that was there is there in a world below which nothing turned. -/
theorem cell_below {B : Nat} {w w' : World} (hb : Below B w w') {p : Addr} {u : Value} (hp : p.block < B) (h : w.cell? p = some u) : w'.cell? p = some u := by rw [hb.cell hp]; exact h

def firstZ (fin : Bool) (op : Int) : Int := if fin then bits .or .u8 op 128 else op
def secZ (masked : Bool) : Int := if masked then 128 else 0
def beZs (k v : Nat) : List Int := (Lib.beBytes k v).map fun b => (b.toNat : Int)
def maskZ (masked : Bool) (m0 m1 m2 m3 : Int) : List Int := if masked then [m0, m1, m2, m3] else []

theorem byteCells_be (k v : Nat) : Lib.byteCells (Lib.beBytes k v) = cellsZ (beZs k v) := by simp [Lib.byteCells, cellsZ, beZs]
theorem be_length (k v : Nat) (h : (Lib.beBytes k v).length = k) : (beZs k v).length = k := by simpa [beZs] using h

/-- The three forms of the header. -/
def hdrS (fin : Bool) (op : Int) (masked : Bool) (m0 m1 m2 m3 : Int) (len : Int) : List Int := firstZ fin op :: bits .or .u8 (secZ masked) (IntKind.u8.wrap len) :: maskZ masked m0 m1 m2 m3
def hdrM (fin : Bool) (op : Int) (masked : Bool) (m0 m1 m2 m3 : Int) (len : Nat) : List Int := firstZ fin op :: bits .or .u8 (secZ masked) 126 :: (beZs 2 len ++ maskZ masked m0 m1 m2 m3)
def hdrL (fin : Bool) (op : Int) (masked : Bool) (m0 m1 m2 m3 : Int) (len : Nat) : List Int := firstZ fin op :: bits .or .u8 (secZ masked) 127 :: (beZs 8 len ++ maskZ masked m0 m1 m2 m3)

theorem own_close {w : World} {B k n : Nat} {v : Value} {ys xs : List Value} (L : List Int) (h : w.ownsRow B 5 1 v k ys) (hys : ys = xs ++ cellsZ L) (hxs : xs.length = n) : w.ownsRow B 5 1 v (n + L.length) (xs ++ cellsZ L) := by
  subst hys
  have := h.1
  simp [cellsZ_length, hxs] at this
  rw [this]
  exact h

theorem mask_cells (w : World) (b : Nat) (m0 m1 m2 m3 : Int) (c3 : w.cell? ⟨b, 3, none⟩ = some (.int .u8 m0)) (c4 : w.cell? ⟨b, 4, none⟩ = some (.int .u8 m1)) (c5 : w.cell? ⟨b, 5, none⟩ = some (.int .u8 m2)) (c6 : w.cell? ⟨b, 6, none⟩ = some (.int .u8 m3)) :
    ∀ j u, (cellsZ [m0, m1, m2, m3])[j]? = some u → w.cell? ((⟨b, 3, none⟩ : Addr).add j) = some u := by
  intro j u hu
  match j, hu with
  | 0, hu => simp [cellsZ] at hu; subst hu; simpa [Addr.add] using c3
  | 1, hu => simp [cellsZ] at hu; subst hu; simpa [Addr.add] using c4
  | 2, hu => simp [cellsZ] at hu; subst hu; simpa [Addr.add] using c5
  | 3, hu => simp [cellsZ] at hu; subst hu; simpa [Addr.add] using c6

set_option maxHeartbeats 2000000 in
set_option maxRecDepth 100000 in
theorem afh_small (n : Nat) (v : Value) (xs : List Value) (fin masked : Bool) (op m0 m1 m2 m3 len : Int) (hlen : len ≤ 125) (w : World) (hr : Full w v n xs) (hn : n ≤ 4096) :
    Calls Yba.prog 5 #[v, .agg #[.bool fin, .int .u8 op, .bool masked, .int .u8 m0, .int .u8 m1, .int .u8 m2, .int .u8 m3, .int .i64 len]] w fun e w' =>
      ∃ v', e = .returned v' ∧ w'.ownsRow (w.heap.size + 1 + 1) 5 1 v' (n + (hdrS fin op masked m0 m1 m2 m3 len).length) (xs ++ cellsZ (hdrS fin op masked m0 m1 m2 m3 len)) ∧ Below w.heap.size w w' := by
  have HR := hid hr
  have HX : Hid (xs.length = n) := by obtain ⟨_, _, _, h, _⟩ := hr; exact h
  clear hr
  obtain ⟨z, hz⟩ : ∃ z, z = firstZ fin op := ⟨_, rfl⟩
  obtain ⟨y, hy⟩ : ∃ y, y = bits .or .u8 (secZ masked) (IntKind.u8.wrap len) := ⟨_, rfl⟩
  cases fin <;> cases masked
  all_goals
    simp only [firstZ, secZ, if_true, if_false, Bool.false_eq_true] at hz hy
    have HZ := hid hz
    have HY := hid hy
    go_enter Yba.func5, Yba.ntmps5
    clear hz hy
    go_wp2_with (at_builtin; refine app22_full rfl _ _ rfl v n xs rfl ((HR.out.alloc _).alloc _) ⟨w.heap.size + 1, 0, none⟩ 1 1 [Value.int .u8 z] rfl rfl (by rw [HZ.out]; exact (cell_new1 _ _ _ _ (by simp))) (ints_oneCell _ [_]) (Nat.le_refl _) (by omega) ?_)
    intro v1 w1 hown1 hb1
    have hs1 : w.heap.size + 2 ≤ w1.heap.size := by have := hb1.size; simpa using this
    have hq := fun q u h => cell_below (p := ⟨w.heap.size, q, none⟩) (u := u) hb1 (show w.heap.size < w.heap.size + 1 + 1 by omega) h
    have c2 := hq 2 (.bool _) (by simp; rfl)
    have c3 := hq 3 (.int .u8 m0) (by simp)
    have c4 := hq 4 (.int .u8 m1) (by simp)
    have c5 := hq 5 (.int .u8 m2) (by simp)
    have c6 := hq 6 (.int .u8 m3) (by simp)
    have c7 := hq 7 (.int .i64 len) (by simp)
    have HO1 := hid hown1
    have HB1 : Hid (Below w.heap.size w w1) := (((Below.refl w.heap.size w).alloc (Nat.le_refl _) _).alloc (by simp) _).trans (hb1.mono (by omega))
    clear hown1 hb1 hq
    go_wp2_with (at_builtin; refine app22 rfl _ _ rfl (w.heap.size + 1 + 1) v1 (n + 1) _ rfl (HO1.out.alloc _) ⟨w1.heap.size, 0, none⟩ 1 1 [Value.int .u8 y] rfl rfl (by rw [HY.out]; exact (cell_new1 _ _ _ _ rfl)) (ints_oneCell _ [_]) (by omega) (by simp; omega) ?_)
    intro v2 w2 hown2 hb2
    have hs2 : w1.heap.size + 1 ≤ w2.heap.size := by have := hb2.size; simpa using this
    have hb12 : Below (w.heap.size + 1 + 1) w1 w2 := ((Below.refl _ w1).alloc (by omega) _).trans hb2
    have d2 := cell_below hb12 (by simp; omega) c2
    have d3 := cell_below hb12 (by simp; omega) c3
    have d4 := cell_below hb12 (by simp; omega) c4
    have d5 := cell_below hb12 (by simp; omega) c5
    have d6 := cell_below hb12 (by simp; omega) c6
    have HO2 := hid hown2
    have HB2 : Hid (Below w.heap.size w w2) := HB1.out.trans (hb12.mono (by omega))
    clear hown2 hb2 hb12 c2 c3 c4 c5 c6 c7
    first
    | (go_wp2_with (at_builtin; refine app22 rfl _ _ rfl (w.heap.size + 1 + 1) v2 (n + 1 + 1) _ rfl HO2.out ⟨w.heap.size, 3, none⟩ 4 4 (cellsZ [m0, m1, m2, m3]) rfl rfl (mask_cells _ _ _ _ _ _ d3 d4 d5 d6) (cellsZ_one _) (by omega) (by omega) ?_)
       intro v3 w3 hown3 hb3
       go_wp2
       go_ret
       refine ⟨v3, rfl, own_close _ hown3 ?_ HX.out, HB2.out.trans (hb3.mono (by omega))⟩
       simp [hdrS, cellsZ, HZ.out, HY.out, firstZ, secZ, maskZ])
    | (go_wp2
       go_ret
       refine ⟨v2, rfl, own_close _ HO2.out ?_ HX.out, HB2.out⟩
       simp [hdrS, cellsZ, HZ.out, HY.out, firstZ, secZ, maskZ])

set_option maxHeartbeats 4000000 in
set_option maxRecDepth 100000 in
theorem afh_mid (n : Nat) (v : Value) (xs : List Value) (fin masked : Bool) (op m0 m1 m2 m3 : Int) (len : Nat) (hlen : 125 < len) (hl2 : len ≤ 65535) (w : World) (hr : Full w v n xs) (hn : n ≤ 4096) :
    Calls Yba.prog 5 #[v, .agg #[.bool fin, .int .u8 op, .bool masked, .int .u8 m0, .int .u8 m1, .int .u8 m2, .int .u8 m3, .int .i64 len]] w fun e w' =>
      ∃ v', e = .returned v' ∧ w'.ownsRow (w.heap.size + 1 + 1) 5 1 v' (n + (hdrM fin op masked m0 m1 m2 m3 len).length) (xs ++ cellsZ (hdrM fin op masked m0 m1 m2 m3 len)) ∧ Below w.heap.size w w' := by
  have HR := hid hr
  have HX : Hid (xs.length = n) := by obtain ⟨_, _, _, h, _⟩ := hr; exact h
  clear hr
  have h16 : IntKind.u16.wrap (len : Int) = (len : Int) := by rw [IntKind.wrap_u16]; omega
  have h16b : (len : Int) % 65536 = (len : Int) := by omega
  obtain ⟨z, hz⟩ : ∃ z, z = firstZ fin op := ⟨_, rfl⟩
  obtain ⟨y, hy⟩ : ∃ y, y = bits .or .u8 (secZ masked) 126 := ⟨_, rfl⟩
  cases fin <;> cases masked
  all_goals
    simp only [firstZ, secZ, if_true, if_false, Bool.false_eq_true] at hz hy
    have HZ := hid hz
    have HY := hid hy
    go_enter Yba.func5, Yba.ntmps5
    clear hz hy
    go_wp2_with (at_builtin; refine app22_full rfl _ _ rfl v n xs rfl ((HR.out.alloc _).alloc _) ⟨w.heap.size + 1, 0, none⟩ 1 1 [Value.int .u8 z] rfl rfl (by rw [HZ.out]; exact (cell_new1 _ _ _ _ (by simp))) (ints_oneCell _ [_]) (Nat.le_refl _) (by omega) ?_)
    intro v1 w1 hown1 hb1
    have hs1 : w.heap.size + 2 ≤ w1.heap.size := by have := hb1.size; simpa using this
    have hq := fun q u h => cell_below (p := ⟨w.heap.size, q, none⟩) (u := u) hb1 (show w.heap.size < w.heap.size + 1 + 1 by omega) h
    have c2 := hq 2 (.bool _) (by simp; rfl)
    have c3 := hq 3 (.int .u8 m0) (by simp)
    have c4 := hq 4 (.int .u8 m1) (by simp)
    have c5 := hq 5 (.int .u8 m2) (by simp)
    have c6 := hq 6 (.int .u8 m3) (by simp)
    have c7 := hq 7 (.int .i64 len) (by simp)
    have HO1 := hid hown1
    have HB1 : Hid (Below w.heap.size w w1) := (((Below.refl w.heap.size w).alloc (Nat.le_refl _) _).alloc (by simp) _).trans (hb1.mono (by omega))
    clear hown1 hb1 hq
    go_wp2_with fail
    go_region_law (first | (refine step_app22 rfl (.tmp 45) (.tmp 48) rfl (w.heap.size + 1 + 1) v1 (n + 1) _ rfl (HO1.out.alloc _) ⟨w1.heap.size, 0, none⟩ 1 1 [Value.int .u8 y] rfl rfl (by rw [HY.out]; exact (cell_new1 _ _ _ _ rfl)) (ints_oneCell _ [_]) (by omega) (by simp; omega) ?_; intro v2 w2 hown2 hb2) | (go_simp; refine (Yba.binary_BE_AppendUint16 (w.heap.size + 1 + 1) _ len (by omega) v2 _ _ hown2 (by have := hb2.size; simp at this; omega) (by omega)).mono ?_; rintro e w3 ⟨v3, rfl, hown3, hb3⟩))
    all_goals
      have hs2 : w1.heap.size + 1 ≤ w2.heap.size := by have := hb2.size; simpa using this
      have hs3 := hb3.size
      have hb13 : Below (w.heap.size + 1 + 1) w1 w3 := ((((Below.refl _ w1).alloc (by omega) _).drew).trans hb2).trans hb3
      have d2 := cell_below hb13 (by simp; omega) c2
      have d3 := cell_below hb13 (by simp; omega) c3
      have d4 := cell_below hb13 (by simp; omega) c4
      have d5 := cell_below hb13 (by simp; omega) c5
      have d6 := cell_below hb13 (by simp; omega) c6
      have HO2 := hid hown3
      have HB2 : Hid (Below w.heap.size w w3) := HB1.out.trans (hb13.mono (by omega))
      clear hown2 hb2 hb13 hb3 hown3 c2 c3 c4 c5 c6 c7
      first
      | (go_wp2_with (at_builtin; refine app22 rfl _ _ rfl (w.heap.size + 1 + 1) v3 (n + 1 + 1 + 2) _ rfl HO2.out ⟨w.heap.size, 3, none⟩ 4 4 (cellsZ [m0, m1, m2, m3]) rfl rfl (mask_cells _ _ _ _ _ _ d3 d4 d5 d6) (cellsZ_one _) (by omega) (by omega) ?_)
         intro v4 w4 hown4 hb4
         go_wp2
         go_ret
         refine ⟨v4, rfl, own_close _ hown4 ?_ HX.out, HB2.out.trans (hb4.mono (by omega))⟩
         rw [byteCells_be]
         simp [hdrM, cellsZ, HZ.out, HY.out, firstZ, secZ, maskZ])
      | (go_wp2
         go_ret
         refine ⟨v3, rfl, own_close _ HO2.out ?_ HX.out, HB2.out⟩
         rw [byteCells_be]
         simp [hdrM, cellsZ, HZ.out, HY.out, firstZ, secZ, maskZ])

set_option maxHeartbeats 4000000 in
set_option maxRecDepth 100000 in
theorem afh_large (n : Nat) (v : Value) (xs : List Value) (fin masked : Bool) (op m0 m1 m2 m3 : Int) (len : Nat) (hlen : 65535 < len) (hl2 : len ≤ 9223372036854775807) (w : World) (hr : Full w v n xs) (hn : n ≤ 4096) :
    Calls Yba.prog 5 #[v, .agg #[.bool fin, .int .u8 op, .bool masked, .int .u8 m0, .int .u8 m1, .int .u8 m2, .int .u8 m3, .int .i64 len]] w fun e w' =>
      ∃ v', e = .returned v' ∧ w'.ownsRow (w.heap.size + 1 + 1) 5 1 v' (n + (hdrL fin op masked m0 m1 m2 m3 len).length) (xs ++ cellsZ (hdrL fin op masked m0 m1 m2 m3 len)) ∧ Below w.heap.size w w' := by
  have HR := hid hr
  have HX : Hid (xs.length = n) := by obtain ⟨_, _, _, h, _⟩ := hr; exact h
  clear hr
  have h64 : IntKind.u64.wrap (len : Int) = (len : Int) := by rw [IntKind.wrap_u64]; omega
  obtain ⟨z, hz⟩ : ∃ z, z = firstZ fin op := ⟨_, rfl⟩
  obtain ⟨y, hy⟩ : ∃ y, y = bits .or .u8 (secZ masked) 127 := ⟨_, rfl⟩
  cases fin <;> cases masked
  all_goals
    simp only [firstZ, secZ, if_true, if_false, Bool.false_eq_true] at hz hy
    have HZ := hid hz
    have HY := hid hy
    go_enter Yba.func5, Yba.ntmps5
    clear hz hy
    go_wp2_with (at_builtin; refine app22_full rfl _ _ rfl v n xs rfl ((HR.out.alloc _).alloc _) ⟨w.heap.size + 1, 0, none⟩ 1 1 [Value.int .u8 z] rfl rfl (by rw [HZ.out]; exact (cell_new1 _ _ _ _ (by simp))) (ints_oneCell _ [_]) (Nat.le_refl _) (by omega) ?_)
    intro v1 w1 hown1 hb1
    have hs1 : w.heap.size + 2 ≤ w1.heap.size := by have := hb1.size; simpa using this
    have hq := fun q u h => cell_below (p := ⟨w.heap.size, q, none⟩) (u := u) hb1 (show w.heap.size < w.heap.size + 1 + 1 by omega) h
    have c2 := hq 2 (.bool _) (by simp; rfl)
    have c3 := hq 3 (.int .u8 m0) (by simp)
    have c4 := hq 4 (.int .u8 m1) (by simp)
    have c5 := hq 5 (.int .u8 m2) (by simp)
    have c6 := hq 6 (.int .u8 m3) (by simp)
    have c7 := hq 7 (.int .i64 len) (by simp)
    have HO1 := hid hown1
    have HB1 : Hid (Below w.heap.size w w1) := (((Below.refl w.heap.size w).alloc (Nat.le_refl _) _).alloc (by simp) _).trans (hb1.mono (by omega))
    clear hown1 hb1 hq
    go_wp2_with fail
    go_region_law (first | (refine step_app22 rfl (.tmp 23) (.tmp 26) rfl (w.heap.size + 1 + 1) v1 (n + 1) _ rfl (HO1.out.alloc _) ⟨w1.heap.size, 0, none⟩ 1 1 [Value.int .u8 y] rfl rfl (by rw [HY.out]; exact (cell_new1 _ _ _ _ rfl)) (ints_oneCell _ [_]) (by omega) (by simp; omega) ?_; intro v2 w2 hown2 hb2) | (go_simp; refine (Yba.binary_BE_AppendUint64 (w.heap.size + 1 + 1) _ len (by omega) v2 _ _ hown2 (by have := hb2.size; simp at this; omega) (by omega)).mono ?_; rintro e w3 ⟨v3, rfl, hown3, hb3⟩))
    all_goals
      have hs2 : w1.heap.size + 1 ≤ w2.heap.size := by have := hb2.size; simpa using this
      have hs3 := hb3.size
      have hb13 : Below (w.heap.size + 1 + 1) w1 w3 := ((((Below.refl _ w1).alloc (by omega) _).drew).trans hb2).trans hb3
      have d2 := cell_below hb13 (by simp; omega) c2
      have d3 := cell_below hb13 (by simp; omega) c3
      have d4 := cell_below hb13 (by simp; omega) c4
      have d5 := cell_below hb13 (by simp; omega) c5
      have d6 := cell_below hb13 (by simp; omega) c6
      have HO2 := hid hown3
      have HB2 : Hid (Below w.heap.size w w3) := HB1.out.trans (hb13.mono (by omega))
      clear hown2 hb2 hb13 hb3 hown3 c2 c3 c4 c5 c6 c7
      first
      | (go_wp2_with (at_builtin; refine app22 rfl _ _ rfl (w.heap.size + 1 + 1) v3 (n + 1 + 1 + 8) _ rfl HO2.out ⟨w.heap.size, 3, none⟩ 4 4 (cellsZ [m0, m1, m2, m3]) rfl rfl (mask_cells _ _ _ _ _ _ d3 d4 d5 d6) (cellsZ_one _) (by omega) (by omega) ?_)
         intro v4 w4 hown4 hb4
         go_wp2
         go_ret
         refine ⟨v4, rfl, own_close _ hown4 ?_ HX.out, HB2.out.trans (hb4.mono (by omega))⟩
         rw [byteCells_be]
         simp [hdrL, cellsZ, HZ.out, HY.out, firstZ, secZ, maskZ])
      | (go_wp2
         go_ret
         refine ⟨v3, rfl, own_close _ HO2.out ?_ HX.out, HB2.out⟩
         rw [byteCells_be]
         simp [hdrL, cellsZ, HZ.out, HY.out, firstZ, secZ, maskZ])

end Go.Proofs.Ybulkbuhs
