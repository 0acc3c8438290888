/- parseFrameHeader at each header that appendFrameHeader writes. -/
import Derived.Test.YbulkbuhsParseS
import Derived.Test.YbulkbuhsParseM
import Derived.Test.YbulkbuhsParseL
import Derived.Test.YbulkbuhsExact0
namespace Go.Proofs.Ybulkbuhs
open Go.RowKit

/-- A mask's byte as the reader hands it back. -/
def mk (b : Bool) (m : Int) : Int := if b then m else 0
/-- The op code is that of a control frame. -/
def ctl (o : Nat) : Bool := o / 8 % 2 == 1

theorem first_fin (fin : Bool) (o : Nat) (ho : o < 16) : bits .and .u8 (firstZ fin o) 128 = if fin then 128 else 0 := by
  cases fin
  · simp only [firstZ, Bool.false_eq_true, if_false]
    rw [and128 o (by omega), if_pos (by omega)]
  · simp only [firstZ, if_true]
    rw [or128r o (by omega), and128 _ (by omega), if_neg (by omega)]
theorem first_op (fin : Bool) (o : Nat) (ho : o < 16) : bits .and .u8 (firstZ fin o) 15 = o := by
  cases fin
  · simp only [firstZ, Bool.false_eq_true, if_false]
    rw [and15 o (by omega), Nat.mod_eq_of_lt ho]
  · simp only [firstZ, if_true]
    rw [or128r o (by omega), and15 _ (by omega)]
    omega
theorem sec_mask (masked : Bool) (y : Nat) (hy : y < 128) : bits .and .u8 (bits .or .u8 (secZ masked) y) 128 = if masked then 128 else 0 := by
  cases masked
  · simp only [secZ, Bool.false_eq_true, if_false]
    rw [or0 y (by omega), and128 _ (by omega), if_pos (by omega)]
  · simp only [secZ, if_true]
    rw [or128l y (by omega), and128 _ (by omega), if_neg (by omega)]
theorem sec_len (masked : Bool) (y : Nat) (hy : y < 128) : bits .and .u8 (bits .or .u8 (secZ masked) y) 127 = y := by
  cases masked
  · simp only [secZ, Bool.false_eq_true, if_false]
    rw [or0 y (by omega), and127 _ (by omega)]
    omega
  · simp only [secZ, if_true]
    rw [or128l y (by omega), and127 _ (by omega)]
    omega
theorem op8 (o : Nat) (ho : o < 16) : bits .and .u8 (o : Int) 8 = if ctl o then 8 else 0 := by
  rw [and8 o (by omega)]
  unfold ctl
  rcases Nat.mod_two_eq_zero_or_one (o / 8) with h | h <;> simp [h]
theorem wrap8 (N : Nat) (h : N < 256) : IntKind.u8.wrap (N : Int) = N := by
  have e : (N : Int) % 2 ^ IntKind.u8.bits = N := by show (N : Int) % 256 = N; omega
  unfold IntKind.wrap
  rw [e]
  exact if_neg (by simp [IntKind.signed])

set_option maxRecDepth 100000 in
set_option maxHeartbeats 1000000 in
theorem parse_small (fin masked : Bool) (o : Nat) (ho : o < 16) (m0 m1 m2 m3 : Int) (N : Nat) (hN : N ≤ 125) (w : World) (g c : Nat) (hc : (hdrS fin o masked m0 m1 m2 m3 N).length ≤ c) (hc2 : c ≤ 9223372036854775807)
    (hcell : ∀ j, j < (hdrS fin o masked m0 m1 m2 m3 N).length → w.cell? ⟨g, 0 + j, none⟩ = some (.int .u8 ((hdrS fin o masked m0 m1 m2 m3 N).getD j 0))) :
    Calls Yba.prog 7 #[.slice (some ⟨g, 0, none⟩) (hdrS fin o masked m0 m1 m2 m3 N).length c] w fun e w' => ∃ v, e = .returned (.tuple #[.agg #[.bool fin, .int .u8 o, .bool masked, .int .u8 (mk masked m0), .int .u8 (mk masked m1), .int .u8 (mk masked m2), .int .u8 (mk masked m3), .int .i64 N], v]) ∧ Fault (ctl o && !fin) v ∧ Below w.heap.size w w' := by
  have f1 := first_fin fin o ho
  have f2 := first_op fin o ho
  have f5 := op8 o ho
  have f3 := sec_mask masked N (by omega)
  have f4 := sec_len masked N (by omega)
  simp only [hdrS] at hc hcell ⊢
  rw [wrap8 N (by omega)] at hc hcell ⊢
  generalize firstZ fin o = z0 at *
  generalize bits .or .u8 (secZ masked) N = y at *
  cases hk : ctl o <;> cases fin <;> cases masked
  all_goals
    rw [hk] at f5
    simp only [Bool.false_eq_true, if_false, if_true] at f1 f3 f5
    simp only [maskZ, mk, Bool.false_eq_true, if_false, if_true] at hc hcell ⊢
  · exact parse_small_fff g c z0 y o N w (by simpa using hc) hc2 f1 f2 f3 f4 (by omega) (by omega) f5 (hcell 0 (by simp)) (hcell 1 (by simp))
  · exact parse_small_ftf g c z0 y o N m0 m1 m2 m3 w (by simpa using hc) hc2 f1 f2 f3 f4 (by omega) (by omega) f5 (hcell 0 (by simp)) (hcell 1 (by simp)) (hcell 2 (by simp)) (hcell 3 (by simp)) (hcell 4 (by simp)) (hcell 5 (by simp))
  · exact parse_small_tff g c z0 y o N w (by simpa using hc) hc2 f1 f2 f3 f4 (by omega) (by omega) f5 (hcell 0 (by simp)) (hcell 1 (by simp))
  · exact parse_small_ttf g c z0 y o N m0 m1 m2 m3 w (by simpa using hc) hc2 f1 f2 f3 f4 (by omega) (by omega) f5 (hcell 0 (by simp)) (hcell 1 (by simp)) (hcell 2 (by simp)) (hcell 3 (by simp)) (hcell 4 (by simp)) (hcell 5 (by simp))
  · exact parse_small_fft g c z0 y o N w (by simpa using hc) hc2 f1 f2 f3 f4 (by omega) (by omega) f5 (hcell 0 (by simp)) (hcell 1 (by simp))
  · exact parse_small_ftt g c z0 y o N m0 m1 m2 m3 w (by simpa using hc) hc2 f1 f2 f3 f4 (by omega) (by omega) f5 (hcell 0 (by simp)) (hcell 1 (by simp)) (hcell 2 (by simp)) (hcell 3 (by simp)) (hcell 4 (by simp)) (hcell 5 (by simp))
  · exact parse_small_tft g c z0 y o N w (by simpa using hc) hc2 f1 f2 f3 f4 (by omega) (by omega) f5 (hcell 0 (by simp)) (hcell 1 (by simp))
  · exact parse_small_ttt g c z0 y o N m0 m1 m2 m3 w (by simpa using hc) hc2 f1 f2 f3 f4 (by omega) (by omega) f5 (hcell 0 (by simp)) (hcell 1 (by simp)) (hcell 2 (by simp)) (hcell 3 (by simp)) (hcell 4 (by simp)) (hcell 5 (by simp))

set_option maxRecDepth 100000 in
set_option maxHeartbeats 1000000 in
theorem parse_mid (fin masked : Bool) (o : Nat) (ho : o < 16) (m0 m1 m2 m3 : Int) (N : Nat) (hN0 : 125 < N) (hN : N ≤ 65535) (w : World) (g c : Nat) (hc : (hdrM fin o masked m0 m1 m2 m3 N).length ≤ c) (hc2 : c ≤ 9223372036854775807)
    (hcell : ∀ j, j < (hdrM fin o masked m0 m1 m2 m3 N).length → w.cell? ⟨g, 0 + j, none⟩ = some (.int .u8 ((hdrM fin o masked m0 m1 m2 m3 N).getD j 0))) :
    Calls Yba.prog 7 #[.slice (some ⟨g, 0, none⟩) (hdrM fin o masked m0 m1 m2 m3 N).length c] w fun e w' => ∃ v, e = .returned (.tuple #[.agg #[.bool fin, .int .u8 o, .bool masked, .int .u8 (mk masked m0), .int .u8 (mk masked m1), .int .u8 (mk masked m2), .int .u8 (mk masked m3), .int .i64 N], v]) ∧ Fault (ctl o) v ∧ Below w.heap.size w w' := by
  have f1 := first_fin fin o ho
  have f2 := first_op fin o ho
  have f5 := op8 o ho
  have f3 := sec_mask masked 126 (by omega)
  have f4 := sec_len masked 126 (by omega)
  simp only [hdrM] at hc hcell ⊢
  rw [be2] at hc hcell ⊢
  generalize firstZ fin o = z0 at *
  have e : ((126 : Nat) : Int) = 126 := rfl
  rw [e] at f3 f4
  generalize bits .or .u8 (secZ masked) 126 = y at *
  cases hk : ctl o <;> cases fin <;> cases masked
  all_goals
    rw [hk] at f5
    simp only [Bool.false_eq_true, if_false, if_true] at f1 f3 f5
    simp only [maskZ, mk, Bool.false_eq_true, if_false, if_true] at hc hcell ⊢
  · exact parse_mid_fff g c z0 y o N w (by simpa using hc) hc2 f1 f2 f3 f4 hN0 hN f5 (hcell 0 (by simp)) (hcell 1 (by simp)) (hcell 2 (by simp)) (hcell 3 (by simp))
  · exact parse_mid_ftf g c z0 y o N m0 m1 m2 m3 w (by simpa using hc) hc2 f1 f2 f3 f4 hN0 hN f5 (hcell 0 (by simp)) (hcell 1 (by simp)) (hcell 2 (by simp)) (hcell 3 (by simp)) (hcell 4 (by simp)) (hcell 5 (by simp)) (hcell 6 (by simp)) (hcell 7 (by simp))
  · exact parse_mid_tff g c z0 y o N w (by simpa using hc) hc2 f1 f2 f3 f4 hN0 hN f5 (hcell 0 (by simp)) (hcell 1 (by simp)) (hcell 2 (by simp)) (hcell 3 (by simp))
  · exact parse_mid_ttf g c z0 y o N m0 m1 m2 m3 w (by simpa using hc) hc2 f1 f2 f3 f4 hN0 hN f5 (hcell 0 (by simp)) (hcell 1 (by simp)) (hcell 2 (by simp)) (hcell 3 (by simp)) (hcell 4 (by simp)) (hcell 5 (by simp)) (hcell 6 (by simp)) (hcell 7 (by simp))
  · exact parse_mid_fft g c z0 y o N w (by simpa using hc) hc2 f1 f2 f3 f4 hN0 hN f5 (hcell 0 (by simp)) (hcell 1 (by simp)) (hcell 2 (by simp)) (hcell 3 (by simp))
  · exact parse_mid_ftt g c z0 y o N m0 m1 m2 m3 w (by simpa using hc) hc2 f1 f2 f3 f4 hN0 hN f5 (hcell 0 (by simp)) (hcell 1 (by simp)) (hcell 2 (by simp)) (hcell 3 (by simp)) (hcell 4 (by simp)) (hcell 5 (by simp)) (hcell 6 (by simp)) (hcell 7 (by simp))
  · exact parse_mid_tft g c z0 y o N w (by simpa using hc) hc2 f1 f2 f3 f4 hN0 hN f5 (hcell 0 (by simp)) (hcell 1 (by simp)) (hcell 2 (by simp)) (hcell 3 (by simp))
  · exact parse_mid_ttt g c z0 y o N m0 m1 m2 m3 w (by simpa using hc) hc2 f1 f2 f3 f4 hN0 hN f5 (hcell 0 (by simp)) (hcell 1 (by simp)) (hcell 2 (by simp)) (hcell 3 (by simp)) (hcell 4 (by simp)) (hcell 5 (by simp)) (hcell 6 (by simp)) (hcell 7 (by simp))

set_option maxRecDepth 100000 in
set_option maxHeartbeats 1000000 in
theorem parse_large (fin masked : Bool) (o : Nat) (ho : o < 16) (m0 m1 m2 m3 : Int) (N : Nat) (hN0 : 65535 < N) (hN : N ≤ 9223372036854775807) (w : World) (g c : Nat) (hc : (hdrL fin o masked m0 m1 m2 m3 N).length ≤ c) (hc2 : c ≤ 9223372036854775807)
    (hcell : ∀ j, j < (hdrL fin o masked m0 m1 m2 m3 N).length → w.cell? ⟨g, 0 + j, none⟩ = some (.int .u8 ((hdrL fin o masked m0 m1 m2 m3 N).getD j 0))) :
    Calls Yba.prog 7 #[.slice (some ⟨g, 0, none⟩) (hdrL fin o masked m0 m1 m2 m3 N).length c] w fun e w' => ∃ v, e = .returned (.tuple #[.agg #[.bool fin, .int .u8 o, .bool masked, .int .u8 (mk masked m0), .int .u8 (mk masked m1), .int .u8 (mk masked m2), .int .u8 (mk masked m3), .int .i64 N], v]) ∧ Fault (ctl o) v ∧ Below w.heap.size w w' := by
  have f1 := first_fin fin o ho
  have f2 := first_op fin o ho
  have f5 := op8 o ho
  have f3 := sec_mask masked 127 (by omega)
  have f4 := sec_len masked 127 (by omega)
  simp only [hdrL] at hc hcell ⊢
  rw [be8] at hc hcell ⊢
  generalize firstZ fin o = z0 at *
  have e : ((127 : Nat) : Int) = 127 := rfl
  rw [e] at f3 f4
  generalize bits .or .u8 (secZ masked) 127 = y at *
  cases hk : ctl o <;> cases fin <;> cases masked
  all_goals
    rw [hk] at f5
    simp only [Bool.false_eq_true, if_false, if_true] at f1 f3 f5
    simp only [maskZ, mk, Bool.false_eq_true, if_false, if_true] at hc hcell ⊢
  · exact parse_large_fff g c z0 y o N w (by simpa using hc) hc2 f1 f2 f3 f4 hN0 hN f5 (hcell 0 (by simp)) (hcell 1 (by simp)) (hcell 2 (by simp)) (hcell 3 (by simp)) (hcell 4 (by simp)) (hcell 5 (by simp)) (hcell 6 (by simp)) (hcell 7 (by simp)) (hcell 8 (by simp)) (hcell 9 (by simp))
  · exact parse_large_ftf g c z0 y o N m0 m1 m2 m3 w (by simpa using hc) hc2 f1 f2 f3 f4 hN0 hN f5 (hcell 0 (by simp)) (hcell 1 (by simp)) (hcell 2 (by simp)) (hcell 3 (by simp)) (hcell 4 (by simp)) (hcell 5 (by simp)) (hcell 6 (by simp)) (hcell 7 (by simp)) (hcell 8 (by simp)) (hcell 9 (by simp)) (hcell 10 (by simp)) (hcell 11 (by simp)) (hcell 12 (by simp)) (hcell 13 (by simp))
  · exact parse_large_tff g c z0 y o N w (by simpa using hc) hc2 f1 f2 f3 f4 hN0 hN f5 (hcell 0 (by simp)) (hcell 1 (by simp)) (hcell 2 (by simp)) (hcell 3 (by simp)) (hcell 4 (by simp)) (hcell 5 (by simp)) (hcell 6 (by simp)) (hcell 7 (by simp)) (hcell 8 (by simp)) (hcell 9 (by simp))
  · exact parse_large_ttf g c z0 y o N m0 m1 m2 m3 w (by simpa using hc) hc2 f1 f2 f3 f4 hN0 hN f5 (hcell 0 (by simp)) (hcell 1 (by simp)) (hcell 2 (by simp)) (hcell 3 (by simp)) (hcell 4 (by simp)) (hcell 5 (by simp)) (hcell 6 (by simp)) (hcell 7 (by simp)) (hcell 8 (by simp)) (hcell 9 (by simp)) (hcell 10 (by simp)) (hcell 11 (by simp)) (hcell 12 (by simp)) (hcell 13 (by simp))
  · exact parse_large_fft g c z0 y o N w (by simpa using hc) hc2 f1 f2 f3 f4 hN0 hN f5 (hcell 0 (by simp)) (hcell 1 (by simp)) (hcell 2 (by simp)) (hcell 3 (by simp)) (hcell 4 (by simp)) (hcell 5 (by simp)) (hcell 6 (by simp)) (hcell 7 (by simp)) (hcell 8 (by simp)) (hcell 9 (by simp))
  · exact parse_large_ftt g c z0 y o N m0 m1 m2 m3 w (by simpa using hc) hc2 f1 f2 f3 f4 hN0 hN f5 (hcell 0 (by simp)) (hcell 1 (by simp)) (hcell 2 (by simp)) (hcell 3 (by simp)) (hcell 4 (by simp)) (hcell 5 (by simp)) (hcell 6 (by simp)) (hcell 7 (by simp)) (hcell 8 (by simp)) (hcell 9 (by simp)) (hcell 10 (by simp)) (hcell 11 (by simp)) (hcell 12 (by simp)) (hcell 13 (by simp))
  · exact parse_large_tft g c z0 y o N w (by simpa using hc) hc2 f1 f2 f3 f4 hN0 hN f5 (hcell 0 (by simp)) (hcell 1 (by simp)) (hcell 2 (by simp)) (hcell 3 (by simp)) (hcell 4 (by simp)) (hcell 5 (by simp)) (hcell 6 (by simp)) (hcell 7 (by simp)) (hcell 8 (by simp)) (hcell 9 (by simp))
  · exact parse_large_ttt g c z0 y o N m0 m1 m2 m3 w (by simpa using hc) hc2 f1 f2 f3 f4 hN0 hN f5 (hcell 0 (by simp)) (hcell 1 (by simp)) (hcell 2 (by simp)) (hcell 3 (by simp)) (hcell 4 (by simp)) (hcell 5 (by simp)) (hcell 6 (by simp)) (hcell 7 (by simp)) (hcell 8 (by simp)) (hcell 9 (by simp)) (hcell 10 (by simp)) (hcell 11 (by simp)) (hcell 12 (by simp)) (hcell 13 (by simp))

end Go.Proofs.Ybulkbuhs

