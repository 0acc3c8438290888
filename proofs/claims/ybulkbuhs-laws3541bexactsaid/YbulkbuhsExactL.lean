/- The walk of LawS3541BExact: one of three ranges of the length. -/
import Derived.Test.YbulkbuhsExact0
namespace Go.Proofs.Ybulkbuhs
open Go.RowKit
set_option linter.unusedSimpArgs false
set_option linter.unusedVariables false

theorem own_eq {w : World} {B k N : Nat} {v : Value} {ys zs : List Value} (h : w.ownsRow B 5 1 v k ys) (hk : k = N) (hy : ys = zs) : w.ownsRow B 5 1 v N zs := by
  subst hk; subst hy; exact h

set_option maxHeartbeats 8000000 in
set_option maxRecDepth 100000 in
theorem exact_large (a : Option Addr) (n cap : Nat) (zs : List Int) (fin masked : Bool) (op m0 m1 m2 m3 : Int) (len : Nat) (hlen : 65535 < len) (hl2 : len ≤ 9223372036854775807) (w : World) (hp : Pre w a n cap zs) (hn : n ≤ 1024) :
    Calls Yba.prog 3 #[.slice a n cap, .bool fin, .int .u8 op, .bool masked, .agg #[.int .u8 m0, .int .u8 m1, .int .u8 m2, .int .u8 m3], .int .i64 len] w fun e w' => e = .returned (.bool true) ∧ Below w.heap.size w w' := by
  have HP := hid hp
  clear hp
  have HC := hid (fun v W h => afh_large n v (cellsZ zs) fin masked op m0 m1 m2 m3 len hlen hl2 W h (by omega))
  have hlo : 2 ≤ (hdrL fin op masked m0 m1 m2 m3 len).length := by simp only [hdrL, List.length_cons]; omega
  have hhi : (hdrL fin op masked m0 m1 m2 m3 len).length ≤ 14 := by cases masked <;> simp [hdrL, maskZ, beZs, Lib.beBytes, Lib.leBytes_length]
  generalize hH : hdrL fin op masked m0 m1 m2 m3 len = H at *
  have HH := hid hH
  clear hH
  have h64 : IntKind.u64.wrap (len : Int) = (len : Int) := by rw [IntKind.wrap_u64]; omega
  cases fin <;> cases masked
  all_goals
    go_enter Yba.func3, Yba.ntmps3
    go_wp2_with (at_make; refine make22 rfl _ _ rfl .i64 .i64 n rfl rfl (by omega) ?_)
    intro w1 hg1 hs1 hb1
    have HG1 := hid hg1
    have HS1 := hid hs1
    have HB1 : Hid (Below w.heap.size w w1) := ((Below.refl w.heap.size w).alloc (Nat.le_refl _) _).trans (hb1.mono (by omega))
    have e0 := cell_below hb1 (p := ⟨w.heap.size, 0, none⟩) (u := .int .u8 m0) (by simp) (by simp)
    have e1 := cell_below hb1 (p := ⟨w.heap.size, 1, none⟩) (u := .int .u8 m1) (by simp) (by simp)
    have e2 := cell_below hb1 (p := ⟨w.heap.size, 2, none⟩) (u := .int .u8 m2) (by simp) (by simp)
    have e3 := cell_below hb1 (p := ⟨w.heap.size, 3, none⟩) (u := .int .u8 m3) (by simp) (by simp)
    have HPW := hid (HP.out.below HB1.out)
    clear hg1 hs1 hb1
    go_wp2_with (refine copy22 rfl _ _ rfl (w.heap.size + 1) n cap a _ rfl rfl HG1.out (size_madeCells _ _) (cellsZ zs) (by rw [cellsZ_length]; exact HPW.out.len) (fun h => (HPW.out.none h).1) HPW.out.cell (cellsZ_one _) ?_)
    intro w2 hg2 hb2
    have hs2 : w.heap.size + 1 + 1 ≤ w2.heap.size := by have := hb2.size; rw [HS1.out] at this; exact this
    have HG2 := hid hg2
    have HB2 : Hid (Below w.heap.size w w2) := HB1.out.trans (hb2.mono (by omega))
    have f0 := cell_below hb2 (by simp) e0
    have f1 := cell_below hb2 (by simp) e1
    have f2 := cell_below hb2 (by simp) e2
    have f3 := cell_below hb2 (by simp) e3
    clear hg2 hb2 e0 e1 e2 e3 HG1 HS1 HPW HB1
    go_wp2_with fail
    have hfull : ∀ X, Full (w2.alloc X) (.slice (some ⟨w.heap.size + 1, 0, none⟩) n n) n (cellsZ zs) := by
      intro X
      have h := full_block HG2.out
      rw [HP.out.len] at h
      exact h.alloc _
    refine (HC.out _ _ (hfull _)).mono ?_
    clear hfull
    rintro e w3 ⟨v3, rfl, hown3, hb3⟩
    have hs3 : w2.heap.size + 1 ≤ w3.heap.size := by have := hb3.size; simpa using this
    rw [← cellsZ_app] at hown3
    obtain ⟨g3, c3, rfl, _, _, hg3, hgl3, hlen3, hcell3⟩ := own_cells hown3 (by omega)
    have hb23 : Below w2.heap.size w2 w3 := ((Below.refl _ w2).alloc (Nat.le_refl _) _).trans (hb3.mono (by simp))
    have HB3 : Hid (Below w.heap.size w w3) := HB2.out.trans (hb23.mono (by omega))
    have HG3 : Hid (w3.heap[w.heap.size + 1]? = some (.cells (cellsZ zs).toArray 5 (0, 0))) := (hb23.block _ (by omega)).trans HG2.out
    have e0 := cell_below hb23 (by simp; omega) f0
    have e1 := cell_below hb23 (by simp; omega) f1
    have e2 := cell_below hb23 (by simp; omega) f2
    have e3 := cell_below hb23 (by simp; omega) f3
    have HC3 := hid hcell3
    have HL3 := hid hlen3
    clear hown3 hb3 hb23 f0 f1 f2 f3 HG2 HB2 hcell3 hlen3 hg3
    generalize hN3 : n + H.length = N3 at *
    have HN3 := hid hN3
    clear hN3
    go_wp2_with (at_make; refine make22_own rfl _ _ rfl .i64 .i64 _ (n + 14) rfl rfl (by omega) (by omega) ?_)
    intro w4 hown4 hb4
    have HO4 := hid hown4
    have HB4 : Hid (Below w3.heap.size w3 w4) := hb4
    have hs4 := hb4.size
    have HPW := hid (HP.out.below (HB3.out.trans (hb4.mono (by omega))))
    clear hown4 hb4
    go_wp2_with (at_builtin; refine app22_pre rfl _ _ rfl w3.heap.size _ _ _ rfl HO4.out a n cap zs rfl HPW.out (by omega) (by omega) ?_)
    intro v5 w5 hown5 hb5
    have HO5 := hid hown5
    have HB5 : Hid (Below w3.heap.size w3 w5) := HB4.out.trans hb5
    have hs5 := hb5.size
    clear hown5 hb5 HO4 HB4 HPW
    go_wp2_with (at_builtin; refine app22 rfl _ _ rfl w3.heap.size _ _ _ rfl (HO5.out.alloc _) ⟨w5.heap.size, 0, none⟩ 1 1 [_] rfl rfl (cell_new1 _ _ _ _ rfl) (ints_oneCell _ [_]) (by omega) (by simp; omega) ?_)
    intro v6 w6 hown6 hb6
    have HO6 := hid hown6
    have hs6 : w5.heap.size + 1 ≤ w6.heap.size := by have := hb6.size; simpa using this
    have HB6 : Hid (Below w3.heap.size w3 w6) := (HB5.out.alloc (by omega) _).trans hb6
    clear hown6 hb6 HO5 HB5
    go_wp2_with (at_builtin; refine app22 rfl _ _ rfl w3.heap.size _ _ _ rfl (HO6.out.alloc _) ⟨w6.heap.size, 0, none⟩ 1 1 [_] rfl rfl (cell_new1 _ _ _ _ rfl) (ints_oneCell _ [_]) (by omega) (by simp; omega) ?_)
    intro u7 x7 hown7 hb7
    obtain ⟨X, hX, hO7⟩ : ∃ X, X = _ ∧ x7.ownsRow w3.heap.size 5 1 u7 (n + 1 + 1) X := ⟨_, rfl, hown7⟩
    have HX := hid hX
    have HO7 := hid hO7
    have hsx : w6.heap.size + 1 ≤ x7.heap.size := by have := hb7.size; simpa using this
    have HB7 : Hid (Below w3.heap.size w3 x7) := (HB6.out.alloc (by omega) _).trans hb7
    clear hown7 hb7 HO6 HB6 hX hO7 HC
    go_wp2
    go_loopw [16, 20] (fun vb vi wr => ∃ (j : Nat) (i : Int), i = 7 - (j : Int) ∧ j ≤ 8 ∧ vi = .int .i64 i ∧ wr.ownsRow w3.heap.size 5 1 vb (n + 1 + 1 + j) (X ++ cellsZ ((beZs 8 len).take j)) ∧ Below w3.heap.size w3 wr) (fun _ vi _ => (intOf vi + 1).toNat)
    case atStart => exact ⟨0, 7, by omega, by omega, rfl, by simpa [cellsZ] using HO7.out, HB7.out⟩
    case round =>
      obtain ⟨j, i, hi, hj, rfl, hown, hbx⟩ := hrel
      have HOW := hid hown
      have HBX := hid hbx
      have hsr := hbx.size
      clear hown hbx
      have hjs : j = 0 ∨ j = 1 ∨ j = 2 ∨ j = 3 ∨ j = 4 ∨ j = 5 ∨ j = 6 ∨ j = 7 ∨ j = 8 := by omega
      rcases hjs with rfl | rfl | rfl | rfl | rfl | rfl | rfl | rfl | rfl
      · obtain rfl : i = 7 := by omega
        clear hi hj HO7 HB7
        go_wp2_with (at_builtin; refine app22 rfl _ _ rfl w3.heap.size _ _ _ rfl (HOW.out.alloc _) ⟨wr.heap.size, 0, none⟩ 1 1 [_] rfl rfl (cell_new1 _ _ _ _ rfl) (ints_oneCell _ [_]) (by omega) (by simp; omega) ?_)
        intro vb' wr' hown' hb'
        have HN' := hid (own_eq (N := n + 1 + 1 + 1) (zs := X ++ cellsZ ((beZs 8 len).take 1)) hown' rfl (by simp [be8, cellsZ] <;> omega))
        have HB' : Hid (Below w3.heap.size w3 wr') := (HBX.out.alloc (by omega) _).trans hb'
        clear hown' hb' HOW HBX
        go_wp2
        go_roundw
        case rel => exact ⟨1, 6, by omega, by omega, rfl, HN'.out, HB'.out⟩
        case measure => simp [intOf]
      · obtain rfl : i = 6 := by omega
        clear hi hj HO7 HB7
        go_wp2_with (at_builtin; refine app22 rfl _ _ rfl w3.heap.size _ _ _ rfl (HOW.out.alloc _) ⟨wr.heap.size, 0, none⟩ 1 1 [_] rfl rfl (cell_new1 _ _ _ _ rfl) (ints_oneCell _ [_]) (by omega) (by simp; omega) ?_)
        intro vb' wr' hown' hb'
        have HN' := hid (own_eq (N := n + 1 + 1 + 2) (zs := X ++ cellsZ ((beZs 8 len).take 2)) hown' rfl (by simp [be8, cellsZ] <;> omega))
        have HB' : Hid (Below w3.heap.size w3 wr') := (HBX.out.alloc (by omega) _).trans hb'
        clear hown' hb' HOW HBX
        go_wp2
        go_roundw
        case rel => exact ⟨2, 5, by omega, by omega, rfl, HN'.out, HB'.out⟩
        case measure => simp [intOf]
      · obtain rfl : i = 5 := by omega
        clear hi hj HO7 HB7
        go_wp2_with (at_builtin; refine app22 rfl _ _ rfl w3.heap.size _ _ _ rfl (HOW.out.alloc _) ⟨wr.heap.size, 0, none⟩ 1 1 [_] rfl rfl (cell_new1 _ _ _ _ rfl) (ints_oneCell _ [_]) (by omega) (by simp; omega) ?_)
        intro vb' wr' hown' hb'
        have HN' := hid (own_eq (N := n + 1 + 1 + 3) (zs := X ++ cellsZ ((beZs 8 len).take 3)) hown' rfl (by simp [be8, cellsZ] <;> omega))
        have HB' : Hid (Below w3.heap.size w3 wr') := (HBX.out.alloc (by omega) _).trans hb'
        clear hown' hb' HOW HBX
        go_wp2
        go_roundw
        case rel => exact ⟨3, 4, by omega, by omega, rfl, HN'.out, HB'.out⟩
        case measure => simp [intOf]
      · obtain rfl : i = 4 := by omega
        clear hi hj HO7 HB7
        go_wp2_with (at_builtin; refine app22 rfl _ _ rfl w3.heap.size _ _ _ rfl (HOW.out.alloc _) ⟨wr.heap.size, 0, none⟩ 1 1 [_] rfl rfl (cell_new1 _ _ _ _ rfl) (ints_oneCell _ [_]) (by omega) (by simp; omega) ?_)
        intro vb' wr' hown' hb'
        have HN' := hid (own_eq (N := n + 1 + 1 + 4) (zs := X ++ cellsZ ((beZs 8 len).take 4)) hown' rfl (by simp [be8, cellsZ] <;> omega))
        have HB' : Hid (Below w3.heap.size w3 wr') := (HBX.out.alloc (by omega) _).trans hb'
        clear hown' hb' HOW HBX
        go_wp2
        go_roundw
        case rel => exact ⟨4, 3, by omega, by omega, rfl, HN'.out, HB'.out⟩
        case measure => simp [intOf]
      · obtain rfl : i = 3 := by omega
        clear hi hj HO7 HB7
        go_wp2_with (at_builtin; refine app22 rfl _ _ rfl w3.heap.size _ _ _ rfl (HOW.out.alloc _) ⟨wr.heap.size, 0, none⟩ 1 1 [_] rfl rfl (cell_new1 _ _ _ _ rfl) (ints_oneCell _ [_]) (by omega) (by simp; omega) ?_)
        intro vb' wr' hown' hb'
        have HN' := hid (own_eq (N := n + 1 + 1 + 5) (zs := X ++ cellsZ ((beZs 8 len).take 5)) hown' rfl (by simp [be8, cellsZ] <;> omega))
        have HB' : Hid (Below w3.heap.size w3 wr') := (HBX.out.alloc (by omega) _).trans hb'
        clear hown' hb' HOW HBX
        go_wp2
        go_roundw
        case rel => exact ⟨5, 2, by omega, by omega, rfl, HN'.out, HB'.out⟩
        case measure => simp [intOf]
      · obtain rfl : i = 2 := by omega
        clear hi hj HO7 HB7
        go_wp2_with (at_builtin; refine app22 rfl _ _ rfl w3.heap.size _ _ _ rfl (HOW.out.alloc _) ⟨wr.heap.size, 0, none⟩ 1 1 [_] rfl rfl (cell_new1 _ _ _ _ rfl) (ints_oneCell _ [_]) (by omega) (by simp; omega) ?_)
        intro vb' wr' hown' hb'
        have HN' := hid (own_eq (N := n + 1 + 1 + 6) (zs := X ++ cellsZ ((beZs 8 len).take 6)) hown' rfl (by simp [be8, cellsZ] <;> omega))
        have HB' : Hid (Below w3.heap.size w3 wr') := (HBX.out.alloc (by omega) _).trans hb'
        clear hown' hb' HOW HBX
        go_wp2
        go_roundw
        case rel => exact ⟨6, 1, by omega, by omega, rfl, HN'.out, HB'.out⟩
        case measure => simp [intOf]
      · obtain rfl : i = 1 := by omega
        clear hi hj HO7 HB7
        go_wp2_with (at_builtin; refine app22 rfl _ _ rfl w3.heap.size _ _ _ rfl (HOW.out.alloc _) ⟨wr.heap.size, 0, none⟩ 1 1 [_] rfl rfl (cell_new1 _ _ _ _ rfl) (ints_oneCell _ [_]) (by omega) (by simp; omega) ?_)
        intro vb' wr' hown' hb'
        have HN' := hid (own_eq (N := n + 1 + 1 + 7) (zs := X ++ cellsZ ((beZs 8 len).take 7)) hown' rfl (by simp [be8, cellsZ] <;> omega))
        have HB' : Hid (Below w3.heap.size w3 wr') := (HBX.out.alloc (by omega) _).trans hb'
        clear hown' hb' HOW HBX
        go_wp2
        go_roundw
        case rel => exact ⟨7, 0, by omega, by omega, rfl, HN'.out, HB'.out⟩
        case measure => simp [intOf]
      · obtain rfl : i = 0 := by omega
        clear hi hj HO7 HB7
        go_wp2_with (at_builtin; refine app22 rfl _ _ rfl w3.heap.size _ _ _ rfl (HOW.out.alloc _) ⟨wr.heap.size, 0, none⟩ 1 1 [_] rfl rfl (cell_new1 _ _ _ _ rfl) (ints_oneCell _ [_]) (by omega) (by simp; omega) ?_)
        intro vb' wr' hown' hb'
        have HN' := hid (own_eq (N := n + 1 + 1 + 8) (zs := X ++ cellsZ ((beZs 8 len).take 8)) hown' rfl (by simp [be8, cellsZ] <;> omega))
        have HB' : Hid (Below w3.heap.size w3 wr') := (HBX.out.alloc (by omega) _).trans hb'
        clear hown' hb' HOW HBX
        go_wp2
        go_roundw
        case rel => exact ⟨8, -1, by omega, by omega, rfl, HN'.out, HB'.out⟩
        case measure => simp [intOf]
      · obtain rfl : i = -1 := by omega
        clear hi hj HO7 HB7
        have d0 := cell_below HBX.out (by simp; omega) e0
        have d1 := cell_below HBX.out (by simp; omega) e1
        have d2 := cell_below HBX.out (by simp; omega) e2
        have d3 := cell_below HBX.out (by simp; omega) e3
        clear e0 e1 e2 e3
        first
        | (go_wp2_with (at_builtin; refine app22 rfl _ _ rfl w3.heap.size _ _ _ rfl (HOW.out.alloc _) ⟨wr.heap.size, 0, none⟩ 4 4 (cellsZ [m0, m1, m2, m3]) rfl rfl (cell_new4 _ _ _ _ _ _) (cellsZ_one _) (by omega) (by simp; omega) ?_)
           intro v8 w8 hown8 hb8
           have hs8 : wr.heap.size + 1 ≤ w8.heap.size := by have := hb8.size; simpa using this
           have HB8 : Hid (Below w3.heap.size w3 w8) := (HBX.out.alloc (by omega) _).trans hb8
           have hk : n + 1 + 1 + 8 + 4 = N3 := by rw [← HN3.out, ← HH.out]; simp [hdrL, maskZ, be8]
           obtain ⟨gE, cE, rfl, _, _, _, _, _, hcE⟩ := own_cells (own_to (L := zs ++ H) hown8 hk (by rw [← HH.out]; simp [hdrL, cellsZ, maskZ, firstZ, secZ, IntKind.wrap_u8, be8, HX.out])) (by omega)
           have HCE := hid hcE
           clear hown8 hb8 hcE d0 d1 d2 d3 HOW HBX
           go_wp2_with fail
           refine (eq_some g3 0 gE 0 N3 c3 cE (zs ++ H) w8 HL3.out (by omega) (fun j hj => cell_below HB8.out (by simpa using hgl3) (HC3.out j hj)) HCE.out).mono ?_
           rintro e w9 ⟨rfl, q, rfl⟩
           have HB9 := hid (HB3.out.trans (HB8.out.mono (by omega)))
           have HG9 : Hid (w8.heap[w.heap.size + 1]? = some (.cells (cellsZ zs).toArray 5 (0, 0))) := (HB8.out.block _ (by omega)).trans HG3.out
           go_wp2_with fail
           refine (eq_pre (HP.out.below (below_drewN HB9.out q)) (w.heap.size + 1) n (by omega) (fun j hj => by simpa using block_cells HG9.out j (by rw [HP.out.len]; exact hj))).mono ?_
           rintro e w10 ⟨rfl, q2, rfl⟩
           go_wp2
           go_ret
           exact ⟨rfl, below_drewN HB9.out (q + q2)⟩)
        | (have hk : n + 1 + 1 + 8 = N3 := by rw [← HN3.out, ← HH.out]; simp [hdrL, maskZ, be8]
           have hown8 := HOW.out
           obtain ⟨gE, cE, rfl, _, _, _, _, _, hcE⟩ := own_cells (own_to (L := zs ++ H) hown8 hk (by rw [← HH.out]; simp [hdrL, cellsZ, maskZ, firstZ, secZ, IntKind.wrap_u8, be8, HX.out])) (by omega)
           have HCE := hid hcE
           clear hown8 hcE d0 d1 d2 d3 HOW
           go_wp2_with fail
           refine (eq_some g3 0 gE 0 N3 c3 cE (zs ++ H) wr HL3.out (by omega) (fun j hj => cell_below HBX.out (by simpa using hgl3) (HC3.out j hj)) HCE.out).mono ?_
           rintro e w9 ⟨rfl, q, rfl⟩
           have HB9 := hid (HB3.out.trans (HBX.out.mono (by omega)))
           have HG9 : Hid (wr.heap[w.heap.size + 1]? = some (.cells (cellsZ zs).toArray 5 (0, 0))) := (HBX.out.block _ (by omega)).trans HG3.out
           go_wp2_with fail
           refine (eq_pre (HP.out.below (below_drewN HB9.out q)) (w.heap.size + 1) n (by omega) (fun j hj => by simpa using block_cells HG9.out j (by rw [HP.out.len]; exact hj))).mono ?_
           rintro e w10 ⟨rfl, q2, rfl⟩
           go_wp2
           go_ret
           exact ⟨rfl, below_drewN HB9.out (q + q2)⟩)

end Go.Proofs.Ybulkbuhs
